/-
  WHAT THE LAW READS OFF THE STREAM THAT zzs4770abuild HAS MADE. No walk here.
-/
import Derived.Test.YbulkcttmInv
namespace Go.Proofs.Ybulkcttm
open Go.RowKit

theorem wrap_u64 (x : Int) (h0 : 0 ≤ x) (h1 : x ≤ 18446744073709551615) : IntKind.u64.wrap x = x := by
  rw [IntKind.wrap_u64]; omega
theorem num_eq (base : Int) (i : Nat) (h0 : 0 ≤ base) (h1 : base + i ≤ 18446744073709551615) : num base i = base + i := by
  unfold num
  rw [wrap_u64 (i : Int) (by omega) (by omega), wrap_u64 _ (by omega) h1]

theorem lo_eq (i : Nat) : lo i = (i : Int) % 256 := by unfold lo; rw [IntKind.wrap_u8]
theorem hi_eq (i : Nat) : hi i = (i : Int) / 256 % 256 := by unfold hi; rw [IntKind.wrap_u8]
theorem cellsTo_length (base : Int) (R : Nat → Bool) (gs : Nat → Nat) : ∀ k, (cellsTo base R gs k).length = k * 3
  | 0 => rfl
  | k + 1 => by
    simp only [cellsTo, List.length_append, cellsTo_length base R gs k, evCells, List.length_cons, List.length_nil]
    omega
theorem cellsTo_get (base : Int) (R : Nat → Bool) (gs : Nat → Nat) (i j : Nat) (hj : j < 3) : ∀ k, i < k → (cellsTo base R gs k)[i * 3 + j]? = (evCells base R (gs i) i)[j]?
  | 0, h => by omega
  | k + 1, h => by
    have hl := cellsTo_length base R gs k
    simp only [cellsTo]
    by_cases e : i = k
    · subst e
      rw [List.getElem?_append_right (by omega), hl]
      congr 1
      omega
    · rw [List.getElem?_append_left (by omega)]
      exact cellsTo_get base R gs i j hj k (by omega)

section
variable {w : World} {base : Int} {R : Nat → Bool} {k : Nat} {wr : World} {v : Value} {gs : Nat → Nat}

theorem Inv.form (h : Inv w base R k wr v gs) (hk : 0 < k) :
    ∃ g cp, v = .slice (some ⟨g, 0, none⟩) k cp ∧ g < wr.heap.size ∧
      ∀ i, i < k → wr.cell? ⟨g, i * 3, none⟩ = some (.int .u64 (num base i)) ∧ wr.cell? ⟨g, i * 3 + 1, none⟩ = some (.slice (some ⟨gs i, 0, none⟩) 2 2) ∧ wr.cell? ⟨g, i * 3 + 2, none⟩ = some (.bool (R i)) := by
  obtain ⟨hlen, h2⟩ := h.own
  rcases h2 with ⟨_, h0⟩ | ⟨g, cp, cur, hv, _, hh, h1, h2, h3, h4⟩
  · omega
  · refine ⟨g, cp, hv, ?_, fun i hi => ?_⟩
    · rcases Nat.lt_or_ge g wr.heap.size with hlt | hge
      · exact hlt
      · rw [Array.getElem?_eq_none hge] at hh; cases hh
    · have cell : ∀ j, j < 3 → wr.cell? ⟨g, i * 3 + j, none⟩ = (evCells base R (gs i) i)[j]? := fun j hj => by
        rw [cell_of_row wr g (i * 3 + j) cur 31 (0, 0) hh, ← cellsTo_get base R gs i j hj k hi, ← h4]
        rw [List.getElem?_take_of_lt (by omega)]
        simp
      exact ⟨cell 0 (by omega), cell 1 (by omega), cell 2 (by omega)⟩
theorem Inv.form0 (h : Inv w base R 0 wr v gs) : ∃ a cp, v = .slice a 0 cp := by
  rcases h.own.2 with ⟨h1, _⟩ | ⟨g, cp, cur, hv, _⟩
  · exact ⟨_, _, h1⟩
  · exact ⟨_, _, hv⟩
end
end Go.Proofs.Ybulkcttm
