/-
  THE PLAIN LAW OF SHARED BITS: the byte-wise count is the bit-wise one. No walk here.
-/
import Derived.Test.YbulkcuccShared
import Derived.Test.YbulkcuccBits
namespace Go.Proofs.Ybulkcucc
open Go.RowKit

theorem mask_eq (r : Nat) : (128 / 2 ^ r : Int) = ((128 / 2 ^ r : Nat) : Int) := by simp
theorem xor_zero {a b : Nat} (h : a ^^^ b = 0) : a = b := by
  have e : (a ^^^ b) ^^^ b = a := by rw [Nat.xor_assoc, Nat.xor_self, Nat.xor_zero]
  rw [h, Nat.zero_xor] at e
  exact e.symm
theorem and_eq (a m : Nat) (b : Nat) : (a &&& m ≠ b &&& m) ↔ ((a ^^^ b) &&& m ≠ 0) := by
  rw [Nat.and_xor_distrib_right]
  exact ⟨fun h e => h (xor_zero e), fun h e => h (by rw [e, Nat.xor_self])⟩
theorem diff_eq (x y : Nat → Int) (k : Nat) (hx : Bytes x) (hy : Bytes y) (hk : k < 160) :
    diff x y k = decide ((((x (k / 8)).toNat ^^^ (y (k / 8)).toNat) &&& (128 / 2 ^ (k % 8))) ≠ 0) := by
  have bx := hx (k / 8) (by omega)
  have bby := hy (k / 8) (by omega)
  have hm : (128 / 2 ^ (k % 8) : Nat) ≤ 128 := Nat.div_le_self _ _
  unfold diff
  rw [mask_eq]
  generalize (128 / 2 ^ (k % 8) : Nat) = m at hm ⊢
  rw [u8_and _ _ bx.1 (by omega) (by omega) (by omega), u8_and _ _ bby.1 (by omega) (by omega) (by omega), Int.toNat_natCast]
  rw [← Bool.coe_iff_coe]
  simp only [bne_iff_ne, ne_eq, decide_eq_true_eq]
  rw [← ne_eq, ← ne_eq, ← and_eq]
  omega

/-- The number of shared bits. -/
def shGo (x y : Nat → Int) (k : Nat) : Nat → Nat
  | 0 => k
  | n + 1 => if diff x y k = true then k else shGo x y (k + 1) n
def sh (x y : Nat → Int) : Nat := shGo x y 0 160
theorem shGo_first (x y : Nat → Int) : ∀ (n k : Nat), k + n = 160 → (∀ j, j < k → diff x y j = false) → First x y (shGo x y k n)
  | 0, k, h, ha => by
    have e : k = 160 := by omega
    subst e
    exact ⟨by simp [shGo], by simpa [shGo] using ha, fun h => by simp [shGo] at h⟩
  | n + 1, k, h, ha => by
    by_cases hd : diff x y k = true
    · rw [shGo, if_pos hd]; exact ⟨by omega, ha, fun _ => hd⟩
    · rw [shGo, if_neg hd]
      exact shGo_first x y n (k + 1) (by omega) (fun j hj => by
        by_cases e : j = k
        · subst e; simpa using hd
        · exact ha j (by omega))
theorem sh_first (x y : Nat → Int) : First x y (sh x y) := shGo_first x y 160 0 rfl (fun j hj => by omega)
theorem sh_eq {x y : Nat → Int} {s : Nat} (h : First x y s) : s = sh x y := h.unique (sh_first x y)
theorem sh_le (x y : Nat → Int) : sh x y ≤ 160 := (sh_first x y).1

/-- The walk's byte of the distance. -/
theorem xor_eq (x y : Nat → Int) (i : Nat) (hx : Bytes x) (hy : Bytes y) (hi : i < 20) : bits .xor .u8 (x i) (y i) = (((x i).toNat ^^^ (y i).toNat : Nat) : Int) := by
  have bx := hx i hi
  have bby := hy i hi
  exact u8_xor _ _ bx.1 (by omega) bby.1 (by omega)
theorem xor_lt (x y : Nat → Int) (i : Nat) (hx : Bytes x) (hy : Bytes y) (hi : i < 20) : ((x i).toNat ^^^ (y i).toNat) < 256 := by
  have bx := hx i hi
  have bby := hy i hi
  exact Nat.xor_lt_two_pow (n := 8) (by omega) (by omega)

/-- All earlier bytes are alike, byte i is not: the first bit. -/
theorem first_at (x y : Nat → Int) (i : Nat) (hx : Bytes x) (hy : Bytes y) (hi : i < 20) (h : ∀ j, j < i → ((x j).toNat ^^^ (y j).toNat) = 0) (h1 : ((x i).toNat ^^^ (y i).toNat) ≠ 0) :
    First x y (8 * i + (8 - bl ((x i).toNat ^^^ (y i).toNat))) := by
  have hz := xor_lt x y i hx hy hi
  have hp := bl_pos _ hz h1
  have hl := bl_le _ hz
  refine ⟨by omega, fun j hj => ?_, fun _ => ?_⟩
  · rw [diff_eq x y j hx hy (by omega)]
    simp only [ne_eq, decide_eq_false_iff_not, Decidable.not_not]
    by_cases e : j / 8 < i
    · rw [h _ e, Nat.zero_and]
    · have e' : j / 8 = i := by omega
      rw [e']
      exact bl_clear _ hz _ (by omega)
  · rw [diff_eq x y _ hx hy (by omega)]
    have e1 : (8 * i + (8 - bl ((x i).toNat ^^^ (y i).toNat))) / 8 = i := by omega
    have e2 : (8 * i + (8 - bl ((x i).toNat ^^^ (y i).toNat))) % 8 = 8 - bl ((x i).toNat ^^^ (y i).toNat) := by omega
    rw [e1, e2]
    simp only [ne_eq, decide_eq_true_eq]
    exact bl_set _ hz h1
/-- All bytes are alike. -/
theorem first_none (x y : Nat → Int) (hx : Bytes x) (hy : Bytes y) (h : ∀ j, j < 20 → ((x j).toNat ^^^ (y j).toNat) = 0) : First x y 160 := by
  refine ⟨by omega, fun j hj => ?_, fun h => by omega⟩
  rw [diff_eq x y j hx hy (by omega), h _ (by omega), Nat.zero_and]
  rfl
end Go.Proofs.Ybulkcucc
