/-
  CONTRACTS: monthOfDay (27), civil (25), monthsBefore (23).
-/
import Derived.Test.YbulkctqgMonth
import Derived.Test.YbulkctqgCal2
import Derived.Laws.BitsAllLaws
namespace Go.Proofs.Ybulkctqg.Civil
open Go.RowKit Go.Proofs.Ybulkctqg
set_option linter.unusedVariables false

theorem nat_or3 (x : Nat) : x ||| 3 = 4 * (x / 4) + 3 := by
  have h1 : x = (4 * (x / 4)) ||| (x % 4) := by
    rw [nat_join2 _ _ (by omega) (by omega)]; omega
  have h2 : (x % 4) ||| 3 = 3 := by
    have : x % 4 = 0 ∨ x % 4 = 1 ∨ x % 4 = 2 ∨ x % 4 = 3 := by omega
    rcases this with h | h | h | h <;> rw [h] <;> rfl
  calc x ||| 3 = ((4 * (x / 4)) ||| (x % 4)) ||| 3 := by rw [← h1]
    _ = (4 * (x / 4)) ||| ((x % 4) ||| 3) := Nat.or_assoc _ _ _
    _ = (4 * (x / 4)) ||| 3 := by rw [h2]
    _ = 4 * (x / 4) + 3 := nat_join2 _ _ (by omega) (by omega)

theorem or3 (n : Int) (h0 : 0 ≤ n) (h1 : n ≤ 3652058) : bits BinOp.or IntKind.u32 ((4 * n + 1224 + 3) % 146097) 3 = Cal.rem3 n := by
  rw [u32_or _ _ (by omega) (by omega) (by omega) (by omega)]
  show ((_ ||| 3 : Nat) : Int) = _
  rw [nat_or3]
  unfold Cal.rem3
  rw [show 4 * n + 1224 + 3 = 4 * n + 1227 by omega]
  omega

theorem fin_mod (n R : Int) (h0 : 0 ≤ n) (h1 : n ≤ 3652058) (hR : Cal.rem3 n = R) :
    (12 * (100 * ((4 * n + 1224 + 3) / 146097) + R / 1461) + (535 * (R % 1461 / 4) + 331) / 16384 - 10) % 4294967296 = Cal.mod n := by
  subst hR
  have b := Cal.mod_bd n h0 h1
  have e : 12 * (100 * ((4 * n + 1224 + 3) / 146097) + Cal.rem3 n / 1461) + (535 * (Cal.rem3 n % 1461 / 4) + 331) / 16384 - 10 = Cal.mod n := by
    unfold Cal.mod Cal.mn Cal.dy Cal.yr Cal.cen
    rw [show 4 * n + 1224 + 3 = 4 * n + 1227 by omega]
  rw [e]
  omega
theorem fin_off (n R : Int) (hR : Cal.rem3 n = R) :
    (R % 1461 / 4 - (979 * ((535 * (R % 1461 / 4) + 331) / 16384) + 15) / 32) % 4294967296 = Cal.off n := by
  subst hR
  have b := Cal.off_bd n
  have e : Cal.rem3 n % 1461 / 4 - (979 * ((535 * (Cal.rem3 n % 1461 / 4) + 331) / 16384) + 15) / 32 = Cal.off n := rfl
  rw [e]
  omega
theorem ret_pair {k l : IntKind} {a b c d : Int} (h : a = c) (g : b = d) : Ending.returned (.tuple #[.int k a, .int l b]) = .returned (.tuple #[.int k c, .int l d]) := by rw [h, g]

set_option maxHeartbeats 400000 in
theorem monthOfDay (n : Int) (h0 : 0 ≤ n) (h1 : n ≤ 3652058) (w : World) :
    Calls Yba.prog 27 #[.int .i64 n] w fun e w' => e = .returned (.tuple #[.int .i64 (Cal.mod n), .int .i64 (Cal.off n)]) ∧ w' = w := by
  have hor := or3 n h0 h1
  obtain ⟨R, HR⟩ : ∃ R, Hid (Cal.rem3 n = R) := ⟨_, rfl⟩
  rw [HR.out] at hor
  have hb := Cal.rem3_bd n
  rw [HR.out] at hb
  go_enter Yba.func27, Yba.ntmps27
  go_wp2
  go_ret2
  exact ⟨ret_pair (fin_mod n R h0 h1 HR.out) (fin_off n R HR.out), rfl⟩

/-- A Date in memory. -/
def B (n : Int) : Obj := .cells #[.int .i32 n] 40

set_option maxHeartbeats 400000 in
theorem civil (n : Int) (h0 : 0 ≤ n) (h1 : n ≤ 3652058) (w : World) :
    Calls Yba.prog 25 #[.agg #[.int .i32 n]] w fun e w' => e = .returned (.tuple #[.int .i64 (Cal.mod n / 12 + 1), .int .i64 (Cal.mod n % 12 + 1), .int .i64 (Cal.off n + 1)]) ∧ w' = w.alloc (B n) := by
  have b := Cal.mod_bd n h0 h1
  have c := Cal.off_bd n
  go_enter Yba.func25, Yba.ntmps25
  go_wp2_with fail
  refine (monthOfDay n h0 h1 _).mono ?_
  rintro e w' ⟨rfl, rfl⟩
  go_wp2_with fail
  go_ret3
  exact ⟨rfl, rfl⟩

set_option maxHeartbeats 400000 in
theorem monthsBefore (y m : Int) (h0 : 1 ≤ y) (h1 : y ≤ 10000) (g0 : 1 ≤ m) (g1 : m ≤ 12) (w : World) :
    Calls Yba.prog 23 #[.int .i64 y, .int .i64 m] w fun e w' => e = .returned (.int .i64 (12 * (y - 1) + (m - 1))) ∧ w' = w := by
  go_enter Yba.func23, Yba.ntmps23
  go_wp2_with fail
  go_ret
  exact ⟨Month.ret_int (by omega), rfl⟩
end Go.Proofs.Ybulkctqg.Civil
