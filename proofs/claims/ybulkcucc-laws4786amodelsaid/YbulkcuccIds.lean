/-
  AN ID AS A VALUE AND IN MEMORY: twenty bytes told by an index function. No walk here.
-/
import Derived.Test.YbulkcuccRows
import Derived.WalkKit
import Derived.OwnWalk
import Derived.Below
import Derived.Laws.Rows
import Derived.Deep.MidRow
namespace Go.Proofs.Ybulkcucc
open Go.RowKit

/-- The twenty cells. -/
def ids (x : Nat → Int) : List Value := (List.range 20).map fun i => .int .u8 (x i)
/-- The value. -/
def idV (x : Nat → Int) : Value := .agg (ids x).toArray
/-- Each byte is one. -/
def Bytes (x : Nat → Int) : Prop := ∀ i, i < 20 → 0 ≤ x i ∧ x i ≤ 255
/-- An ID lies in block b from offset o on. -/
def IdAt (w : World) (b o : Nat) (x : Nat → Int) : Prop := ∀ i, i < 20 → w.cell? ⟨b, o + i, none⟩ = some (.int .u8 (x i))

theorem ids_get (x : Nat → Int) (i : Nat) (h : i < 20) : (ids x)[i]? = some (.int .u8 (x i)) := by simp [ids, h]
theorem ids_length (x : Nat → Int) : (ids x).length = 20 := by simp [ids]
theorem idAt_block {w : World} {b : Nat} {x : Nat → Int} {t : TypeId} {fr : Nat × Nat} (h : w.heap[b]? = some (.cells (ids x).toArray t fr)) : IdAt w b 0 x := fun i hi => by
  rw [cell_of_row w b (0 + i) _ t fr h]
  simpa using ids_get x i hi
theorem IdAt.range {w : World} {b o : Nat} {x : Nat → Int} (h : IdAt w b o x) : w.rangeAt b o (ids x) := fun j v hv => by
  rcases Nat.lt_or_ge j 20 with hj | hj
  · rw [ids_get x j hj] at hv; cases hv; exact h j hj
  · rw [List.getElem?_eq_none (by rw [ids_length]; exact hj)] at hv; cases hv
theorem IdAt.of_range {w : World} {b o : Nat} {x : Nat → Int} (h : w.rangeAt b o (ids x)) : IdAt w b o x := fun i hi => h i _ (ids_get x i hi)
theorem IdAt.below {B : Nat} {w w' : World} {b o : Nat} {x : Nat → Int} (h : IdAt w b o x) (hb : Below B w w') (hB : b < B) : IdAt w' b o x := fun i hi => by
  rw [hb.cell (p := ⟨b, o + i, none⟩) hB]; exact h i hi
theorem IdAt.lt {w : World} {b o : Nat} {x : Nat → Int} (h : IdAt w b o x) : b < w.heap.size := World.block_lt_of_cell? w _ (h 0 (by omega))
end Go.Proofs.Ybulkcucc
