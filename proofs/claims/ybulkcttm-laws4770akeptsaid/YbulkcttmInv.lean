/-
  WHAT HOLDS OF THE MEMORY AS zzs4770abuild GOES ROUND: the stream's block, the row of its events, a block of two bytes for each event. No walk here.
-/
import Derived.Test.YbulkcttmRows
import Derived.WalkKit
import Derived.OwnWalk
import Derived.Deep.AppendLies
import Derived.Below
namespace Go.Proofs.Ybulkcttm
open Go.RowKit

/-- The number of event i; the two bytes of its data. -/
def num (base : Int) (i : Nat) : Int := IntKind.u64.wrap (base + IntKind.u64.wrap (i : Int))
def lo (i : Nat) : Int := IntKind.u8.wrap (i : Int)
def hi (i : Nat) : Int := IntKind.u8.wrap ((i : Int) / 256)
/-- The cells of one event; of the first k events. -/
def evCells (base : Int) (R : Nat → Bool) (g i : Nat) : List Value := [.int .u64 (num base i), .slice (some ⟨g, 0, none⟩) 2 2, .bool (R i)]
def cellsTo (base : Int) (R : Nat → Bool) (gs : Nat → Nat) : Nat → List Value
  | 0 => []
  | k + 1 => cellsTo base R gs k ++ evCells base R (gs k) k

theorem cellsTo_congr (base : Int) (R : Nat → Bool) (gs hs : Nat → Nat) : ∀ k, (∀ i, i < k → gs i = hs i) → cellsTo base R gs k = cellsTo base R hs k
  | 0, _ => rfl
  | k + 1, h => by
    simp only [cellsTo]
    rw [cellsTo_congr base R gs hs k (fun i hi => h i (by omega)), h k (by omega)]

structure Inv (w : World) (base : Int) (R : Nat → Bool) (k : Nat) (wr : World) (v : Value) (gs : Nat → Nat) : Prop where
  bel : Below w.heap.size w wr
  sz : w.heap.size < wr.heap.size
  ev : wr.cell? ⟨w.heap.size, 4, none⟩ = some v
  fz : wr.frozen? ⟨w.heap.size, 4, none⟩ = false
  own : wr.ownsRow (w.heap.size + 1) 31 3 v k (cellsTo base R gs k)
  dat : ∀ i, i < k → w.heap.size < gs i ∧ gs i < wr.heap.size ∧ v.ownBlock ≠ some (gs i) ∧ wr.cell? ⟨gs i, 0, none⟩ = some (.int .u8 (lo i)) ∧ wr.cell? ⟨gs i, 1, none⟩ = some (.int .u8 (hi i))

theorem own_ge {w : World} {base : Nat} {e : TypeId} {size : Nat} {v : Value} {n : Nat} {xs : List Value} (h : w.ownsRow base e size v n xs) : ∀ g, v.ownBlock = some g → base ≤ g ∧ g < w.heap.size := by
  intro g hg
  rcases h.2 with ⟨rfl, _⟩ | ⟨g', cap, cur, rfl, hb, hh, _⟩
  · cases hg
  · have e : g' = g := by simpa [Value.ownBlock] using hg
    subst e
    refine ⟨hb, ?_⟩
    rcases Nat.lt_or_ge g' w.heap.size with hlt | hge
    · exact hlt
    · rw [Array.getElem?_eq_none hge] at hh; cases hh

/-- The world at the append: the two bytes, the element. -/
def At (wr : World) (base : Int) (R : Nat → Bool) (k : Nat) : World :=
  ((wr.alloc (.cells #[.int .u8 (lo k), .int .u8 (hi k)] 5)).alloc (.cells #[.int .u64 (num base k), .slice (some ⟨wr.heap.size, 0, none⟩) 2 2, .bool (R k)] 31)).drew

theorem At_size (wr : World) (base : Int) (R : Nat → Bool) (k : Nat) : (At wr base R k).heap.size = wr.heap.size + 1 + 1 := by simp [At]
theorem At_block (wr : World) (base : Int) (R : Nat → Bool) (k j : Nat) (h : j < wr.heap.size) : (At wr base R k).heap[j]? = wr.heap[j]? := by
  unfold At
  show ((wr.alloc _).alloc _).heap[j]? = _
  rw [Below.heap_alloc _ _ _ (by simp; omega), Below.heap_alloc _ _ _ h]
theorem At_new (wr : World) (base : Int) (R : Nat → Bool) (k : Nat) : (At wr base R k).heap[wr.heap.size]? = some (.cells #[.int .u8 (lo k), .int .u8 (hi k)] 5) := by
  unfold At
  show ((wr.alloc _).alloc _).heap[wr.heap.size]? = _
  rw [Below.heap_alloc _ _ _ (by simp)]
  exact heap_alloc_new wr _
theorem At_elem (wr : World) (base : Int) (R : Nat → Bool) (k : Nat) : (At wr base R k).heap[wr.heap.size + 1]? = some (.cells #[.int .u64 (num base k), .slice (some ⟨wr.heap.size, 0, none⟩) 2 2, .bool (R k)] 31) := by
  have h := heap_alloc_new (wr.alloc (.cells #[.int .u8 (lo k), .int .u8 (hi k)] 5)) (.cells #[.int .u64 (num base k), .slice (some ⟨wr.heap.size, 0, none⟩) 2 2, .bool (R k)] 31)
  have e : (wr.alloc (.cells #[.int .u8 (lo k), .int .u8 (hi k)] 5)).heap.size = wr.heap.size + 1 := by simp
  rw [e] at h
  exact h

section
variable {w : World} {base : Int} {R : Nat → Bool} {k : Nat} {wr : World} {v : Value} {gs : Nat → Nat}

theorem Inv.not_stream (h : Inv w base R k wr v gs) : some w.heap.size ≠ v.ownBlock := fun e => by
  have := (own_ge h.own _ e.symm).1; omega

theorem Inv.at_ev (h : Inv w base R k wr v gs) : (At wr base R k).cell? ⟨w.heap.size, 4, none⟩ = some v := by
  rw [World.cell?_of_block (At_block wr base R k w.heap.size h.sz)]; exact h.ev
theorem Inv.at_fz (h : Inv w base R k wr v gs) : (At wr base R k).frozen? ⟨w.heap.size, 4, none⟩ = false := by
  rw [World.frozen?_of_block (At_block wr base R k w.heap.size h.sz)]; exact h.fz

/-- The stream's field behind the append. -/
theorem Inv.ev1 {w1 : World} (h : Inv w base R k wr v gs) (hgrow : (At wr base R k).grownBy w1 v.ownBlock) : w1.cell? ⟨w.heap.size, 4, none⟩ = some v := by
  rw [hgrow.cell_far _ (by rw [At_size]; have := h.sz; show w.heap.size < _; omega) h.not_stream]; exact h.at_ev
theorem Inv.fz1 {w1 : World} (h : Inv w base R k wr v gs) (hgrow : (At wr base R k).grownBy w1 v.ownBlock) : w1.frozen? ⟨w.heap.size, 4, none⟩ = false := by
  rw [hgrow.frozen_far _ (by rw [At_size]; have := h.sz; show w.heap.size < _; omega) h.not_stream]; exact h.at_fz

theorem Inv.next {w1 : World} {g cp : Nat} (h : Inv w base R k wr v gs) (hgrow : (At wr base R k).grownBy w1 v.ownBlock)
    (hown : w1.ownsRow (w.heap.size + 1) 31 3 (.slice (some ⟨g, 0, none⟩) (k + 1) cp) (k + 1) (cellsTo base R gs k ++ evCells base R wr.heap.size k))
    (hat : v.ownBlock = some g ∨ g = wr.heap.size + 1 + 1) :
    Inv w base R (k + 1) (w1.setCell ⟨w.heap.size, 4, none⟩ (.slice (some ⟨g, 0, none⟩) (k + 1) cp)) (.slice (some ⟨g, 0, none⟩) (k + 1) cp) (fun i => if i = k then wr.heap.size else gs i) := by
  have hs := h.sz
  have hsz := At_size wr base R k
  have hg := hgrow.size
  have hv := own_ge h.own
  have far : ∀ j, j < wr.heap.size + 1 + 1 → some j ≠ v.ownBlock → w1.heap[j]? = (At wr base R k).heap[j]? := fun j hj hne => hgrow.block j (by omega) hne
  refine ⟨?_, ?_, ?_, ?_, ?_, ?_⟩
  · have b1 : Below w.heap.size w (At wr base R k) := by
      unfold At
      exact ((h.bel.alloc (by omega) _).alloc (by simp; omega) _).drew
    exact (b1.grown hgrow (by omega) (fun j hj => by have := (hv j hj).1; omega)).setCell (Nat.le_refl _) _
  · rw [World.size_setCell]; omega
  · exact World.cell?_setCell_same _ _ _ (h.ev1 hgrow)
  · rw [World.frozen?_setCell]; exact h.fz1 hgrow
  · have e : cellsTo base R (fun i => if i = k then wr.heap.size else gs i) (k + 1) = cellsTo base R gs k ++ evCells base R wr.heap.size k := by
      simp only [cellsTo, if_true]
      rw [cellsTo_congr base R _ gs k (fun i hi => by simp; omega)]
    rw [e]
    exact ownsRow_setCell_below hown (Nat.lt_succ_self _) _
  · intro i hi
    by_cases e : i = k
    · subst e
      simp only [if_true]
      have ne : some wr.heap.size ≠ v.ownBlock := fun e => by have := (hv _ e.symm).2; omega
      have hb : w1.heap[wr.heap.size]? = some (.cells #[.int .u8 (lo i), .int .u8 (Ybulkcttm.hi i)] 5) := by rw [far _ (by omega) ne]; exact At_new wr base R i
      refine ⟨hs, by rw [World.size_setCell]; omega, ?_, ?_, ?_⟩
      · intro e
        have e' : g = wr.heap.size := by simpa [Value.ownBlock] using e
        rcases hat with hat | hat
        · exact ne (by rw [hat, e'])
        · omega
      · rw [World.cell?_setCell_other _ _ _ _ (by simp), cell_of_row w1 _ 0 _ 5 _ hb]; rfl
      · rw [World.cell?_setCell_other _ _ _ _ (by simp), cell_of_row w1 _ 1 _ 5 _ hb]; rfl
    · obtain ⟨d1, d2, d3, d4, d5⟩ := h.dat i (by omega)
      simp only [if_neg e]
      have hb : w1.heap[gs i]? = wr.heap[gs i]? := by rw [far _ (by omega) (Ne.symm d3), At_block wr base R k _ d2]
      refine ⟨d1, by rw [World.size_setCell]; omega, ?_, ?_, ?_⟩
      · intro e
        have e' : g = gs i := by simpa [Value.ownBlock] using e
        rcases hat with hat | hat
        · exact d3 (by rw [hat, e'])
        · omega
      · rw [World.cell?_setCell_other _ _ _ _ (by simp), World.cell?_of_block hb]; exact d4
      · rw [World.cell?_setCell_other _ _ _ _ (by simp), World.cell?_of_block hb]; exact d5

end

/-- A new stream. -/
def stream0 : Obj := .cells #[.int .u64 0, .bool false, .bool false, .bool false, .slice none 0 0, .int .u64 1, .bool false, .bool false, .int .i64 0, .int .i64 0, .int .i64 0, .bool false, .pointer none, .int .u64 0, .chan none] 38
theorem Inv.start (w : World) (base : Int) (R : Nat → Bool) : Inv w base R 0 (w.alloc stream0) (.slice none 0 0) (fun _ => 0) := by
  have hn := heap_alloc_new w stream0
  refine ⟨(Below.refl _ _).alloc (Nat.le_refl _) _, by simp, ?_, ?_, ⟨rfl, .inl ⟨rfl, rfl⟩⟩, fun i hi => by omega⟩
  · rw [cell_of_row _ _ 4 _ 38 _ hn]; rfl
  · unfold World.frozen?; rw [hn]; rfl
end Go.Proofs.Ybulkcttm
