/-
  THE CONTRACTS OF math/bits.Len8 (30) AND LeadingZeros8 (27); the plain facts on one byte.
-/
import Derived.Test.YbulkcuccRows
import Derived.WalkKit
import Derived.WalkSpells
import Derived.Laws.BitsAllLaws
namespace Go.Proofs.Ybulkcucc
open Go.RowKit
set_option linter.unusedVariables false

/-- The library's own table. -/
def tab : ByteArray := { data := #[0, 1, 2, 2, 3, 3, 3, 3, 4, 4, 4, 4, 4, 4, 4, 4, 5, 5, 5, 5, 5, 5, 5, 5, 5, 5, 5, 5, 5, 5, 5, 5, 6, 6, 6, 6, 6, 6, 6, 6, 6, 6, 6, 6, 6, 6, 6, 6, 6, 6, 6, 6, 6, 6, 6, 6, 6, 6, 6, 6, 6, 6, 6, 6, 7, 7, 7, 7, 7, 7, 7, 7, 7, 7, 7, 7, 7, 7, 7, 7, 7, 7, 7, 7, 7, 7, 7, 7, 7, 7, 7, 7, 7, 7, 7, 7, 7, 7, 7, 7, 7, 7, 7, 7, 7, 7, 7, 7, 7, 7, 7, 7, 7, 7, 7, 7, 7, 7, 7, 7, 7, 7, 7, 7, 7, 7, 7, 7, 8, 8, 8, 8, 8, 8, 8, 8, 8, 8, 8, 8, 8, 8, 8, 8, 8, 8, 8, 8, 8, 8, 8, 8, 8, 8, 8, 8, 8, 8, 8, 8, 8, 8, 8, 8, 8, 8, 8, 8, 8, 8, 8, 8, 8, 8, 8, 8, 8, 8, 8, 8, 8, 8, 8, 8, 8, 8, 8, 8, 8, 8, 8, 8, 8, 8, 8, 8, 8, 8, 8, 8, 8, 8, 8, 8, 8, 8, 8, 8, 8, 8, 8, 8, 8, 8, 8, 8, 8, 8, 8, 8, 8, 8, 8, 8, 8, 8, 8, 8, 8, 8, 8, 8, 8, 8, 8, 8, 8, 8, 8, 8, 8, 8, 8, 8, 8, 8, 8, 8, 8, 8, 8, 8, 8, 8, 8, 8] }
theorem tab_size : tab.size = 256 := by decide +kernel
/-- How many bits the byte z takes. -/
def bl (z : Nat) : Nat := tab.data[z]!.toNat
theorem bl_le : ∀ z, z < 256 → bl z ≤ 8 := by decide +kernel
theorem bl_pos : ∀ z, z < 256 → z ≠ 0 → 1 ≤ bl z := by decide +kernel
/-- The bits before the first set one are clear; that one is set. -/
theorem bl_clear : ∀ z, z < 256 → ∀ r, r < 8 - bl z → z &&& (128 / 2 ^ r) = 0 := by decide +kernel
theorem bl_set : ∀ z, z < 256 → z ≠ 0 → z &&& (128 / 2 ^ (8 - bl z)) ≠ 0 := by decide +kernel
theorem tab_at (z : Nat) (h : z < tab.size) : tab[z].toNat = bl z := by
  unfold bl
  have : z < tab.data.size := h
  rw [getElem!_pos tab.data z this]
  rfl

theorem ret_int {k : IntKind} {a b : Int} (h : a = b) : Ending.returned (.int k a) = .returned (.int k b) := by rw [h]

theorem fin_len (z : Nat) (hz : z < 256) (h : z < tab.size) : wrap64 (tab[z].toNat : Int) = (bl z : Int) := by
  rw [tab_at z h]
  have := bl_le z hz
  unfold wrap64
  omega

set_option maxRecDepth 100000 in
set_option maxHeartbeats 800000 in
theorem len8 (z : Nat) (hz : z < 256) (w : World) :
    Calls Yba.prog 30 #[.int .u8 z] w fun e w' => e = .returned (.int .i64 (bl z)) ∧ w' = w := by
  have h0 : (0 : Int) ≤ (z : Int) := Int.natCast_nonneg _
  have h1 : (z : Int) < 256 := by omega
  go_enter Yba.func30, Yba.ntmps30
  go_wp2
  go_ret
  exact ⟨ret_int (fin_len z hz (by rw [tab_size]; exact hz)), rfl⟩

set_option maxRecDepth 100000 in
theorem lz8 (z : Nat) (hz : z < 256) (w : World) :
    Calls Yba.prog 27 #[.int .u8 z] w fun e w' => e = .returned (.int .i64 (8 - bl z : Nat)) ∧ w' = w := by
  have hb := bl_le z hz
  go_enter Yba.func27, Yba.ntmps27
  go_wp2_with fail
  refine (len8 z hz _).mono ?_
  rintro e w' ⟨rfl, rfl⟩
  go_wp2_with fail
  go_ret
  exact ⟨ret_int (by omega), rfl⟩
end Go.Proofs.Ybulkcucc
