/-
  WHAT HOLDS BEHIND 'c := Contact{..}' AND ITS KIN. No walk here.
-/
import Derived.Test.YbulkcuccLInv
namespace Go.Proofs.Ybulkcucc
open Go.RowKit
set_option linter.unusedVariables false

structure C8 (wi W : World) (cb : Nat) (x : Nat → Int) (p : Int) : Prop where
  bel : Below wi.heap.size wi W
  con : W.rangeAt cb 0 (con x p)
  lo : wi.heap.size ≤ cb
  by_ : Bytes x
/-- A variable of a contact, not yet written. -/
def Fresh (W : World) (cb : Nat) : Prop := W.heap[cb]? = some (.cells (con zid 0).toArray 46 (0, 0))
theorem Fresh.there {W : World} {cb : Nat} (h : Fresh W cb) (x : Nat → Int) (p : Int) : W.there cb 0 (con x p).length := there_block h _ (by simp [con_length])
theorem Fresh.below {B : Nat} {W W' : World} {cb : Nat} (h : Fresh W cb) (hb : Below B W W') (hB : cb < B) : Fresh W' cb := by
  unfold Fresh; rw [hb.block cb hB]; exact h
theorem Fresh.lt {W : World} {cb : Nat} (h : Fresh W cb) : cb < W.heap.size := by
  rcases Nat.lt_or_ge cb W.heap.size with hl | hg
  · exact hl
  · unfold Fresh at h; rw [Array.getElem?_eq_none hg] at h; cases h
theorem C8.mk' {wi W : World} {cb : Nat} {x : Nat → Int} {p : Int} (hb : Below wi.heap.size wi W) (hf : Fresh W cb) (lo : wi.heap.size ≤ cb) (hx : Bytes x) : C8 wi (W.setCells cb 0 (Ybulkcucc.con x p)) cb x p :=
  ⟨below_setCells _ lo _ _ _ hb, World.rangeAt_setCells_same _ _ _ _ (hf.there x p), lo, hx⟩
theorem alloc46 (W : World) : Fresh (W.alloc (.cells (con zid 0).toArray 46)) W.heap.size := heap_alloc_new W _
end Go.Proofs.Ybulkcucc
