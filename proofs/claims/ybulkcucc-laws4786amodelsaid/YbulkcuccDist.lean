/-
  THE CONTRACT OF (ID).Distance (26): byte by byte.
-/
import Derived.Test.YbulkcuccShared
import Derived.Laws.Tables
import Derived.RegionTactic
namespace Go.Proofs.Ybulkcucc
open Go.RowKit
set_option linter.unusedVariables false

/-- Block b is an ID, whole. -/
def Blk (w : World) (b : Nat) (x : Nat → Int) : Prop := w.heap[b]? = some (.cells (ids x).toArray 25 (0, 0))
/-- x with byte k turned to v. -/
def upd (x : Nat → Int) (k : Nat) (v : Int) : Nat → Int := fun i => if i = k then v else x i
theorem ids_upd (x : Nat → Int) (k : Nat) (v : Int) : (ids x).toArray.setIfInBounds k (.int .u8 v) = (ids (upd x k v)).toArray := by
  apply Array.ext
  · simp [ids]
  · intro i h1 h2
    simp only [ids, upd, List.getElem_toArray, List.getElem_map, List.getElem_range]
    split
    · rename_i h; simp [h]
    · rename_i h; simp [Ne.symm h]
theorem ids_size (x : Nat → Int) : (ids x).toArray.size = 20 := by simp [ids]
theorem ids_one (x : Nat → Int) : (ids x).toArray.all (·.oneCell') = true := all_oneCell_toArray (fun v hv => by
  simp only [ids, List.mem_map] at hv
  obtain ⟨i, _, rfl⟩ := hv
  rfl)
theorem info25 : (Yba.prog.info? 25).map (·.size) = some 20 := by kernel_rfl
theorem Blk.at {w : World} {b : Nat} {x : Nat → Int} (h : Blk w b x) : IdAt w b 0 x := idAt_block h
theorem Blk.cell {w : World} {b : Nat} {x : Nat → Int} (h : Blk w b x) (i : Nat) (hi : i < 20) : w.cell? ⟨b, i, none⟩ = some (.int .u8 (x i)) := by
  have := h.at i hi; simpa using this
theorem Blk.frozen {w : World} {b : Nat} {x : Nat → Int} (h : Blk w b x) (i : Nat) : w.frozen? ⟨b, i, none⟩ = false := frozen_of_row w b i _ 25 h
theorem Blk.lt {w : World} {b : Nat} {x : Nat → Int} (h : Blk w b x) : b < w.heap.size := h.at.lt
theorem Blk.set {w : World} {b : Nat} {x : Nat → Int} (h : Blk w b x) (k : Nat) (v : Int) : Blk (w.setCell ⟨b, k, none⟩ (.int .u8 v)) b (upd x k v) := by
  unfold Blk
  rw [heap_setCell_same w b k _ 25 _ h, ids_upd]
theorem Blk.other {w : World} {b : Nat} {x : Nat → Int} (h : Blk w b x) (a : Addr) (v : Value) (hb : b ≠ a.block) : Blk (w.setCell a v) b x := by
  unfold Blk
  rw [heap_setCell_other w a b v hb]; exact h

def zid : Nat → Int := fun _ => 0
structure DInv (w : World) (x y : Nat → Int) (k : Nat) (wr : World) (z : Nat → Int) : Prop where
  bel : Below w.heap.size w wr
  sz : wr.heap.size = w.heap.size + 1 + 1 + 1 + 1
  a : Blk wr w.heap.size x
  b : Blk wr (w.heap.size + 1) y
  r : Blk wr (w.heap.size + 1 + 1) zid
  d : Blk wr (w.heap.size + 1 + 1 + 1) z
  eq : ∀ j, j < k → z j = bits .xor .u8 (x j) (y j)

theorem heap4_0 (w : World) (A B C D : Obj) : ((((w.alloc A).alloc B).alloc C).alloc D).heap[w.heap.size]? = some A := by
  rw [Below.heap_alloc _ _ _ (by simp; omega), Below.heap_alloc _ _ _ (by simp; omega)]; exact heap_alloc2_old w A B
theorem heap4_1 (w : World) (A B C D : Obj) : ((((w.alloc A).alloc B).alloc C).alloc D).heap[w.heap.size + 1]? = some B := by
  rw [Below.heap_alloc _ _ _ (by simp), Below.heap_alloc _ _ _ (by simp)]; exact heap_alloc2_new w A B
theorem heap4_2 (w : World) (A B C D : Obj) : ((((w.alloc A).alloc B).alloc C).alloc D).heap[w.heap.size + 1 + 1]? = some C := by
  rw [Below.heap_alloc _ _ _ (by simp)]
  have := heap_alloc2_new (w.alloc A) B C
  simpa using this
theorem heap4_3 (w : World) (A B C D : Obj) : ((((w.alloc A).alloc B).alloc C).alloc D).heap[w.heap.size + 1 + 1 + 1]? = some D := by
  have := heap_alloc2_new ((w.alloc A).alloc B) C D
  simpa using this

theorem DInv.start (w : World) (x y : Nat → Int) : DInv w x y 0 ((((w.alloc (.cells (ids x).toArray 25)).alloc (.cells (ids y).toArray 25)).alloc (.cells (ids zid).toArray 25)).alloc (.cells (ids zid).toArray 25)) zid :=
  ⟨((((Below.refl _ _).alloc (Nat.le_refl _) _).alloc (by simp) _).alloc (by simp; omega) _).alloc (by simp; omega) _, by simp, heap4_0 w _ _ _ _, heap4_1 w _ _ _ _, heap4_2 w _ _ _ _, heap4_3 w _ _ _ _, fun j hj => by omega⟩

theorem DInv.next {w : World} {x y : Nat → Int} {k : Nat} {wr : World} {z : Nat → Int} (h : DInv w x y k wr z) :
    DInv w x y (k + 1) (wr.setCell ⟨w.heap.size + 1 + 1 + 1, k, none⟩ (.int .u8 (bits .xor .u8 (x k) (y k)))).drew (upd z k (bits .xor .u8 (x k) (y k))) := by
  refine ⟨(h.bel.setCell (by show w.heap.size ≤ w.heap.size + 1 + 1 + 1; omega) _).drew, ?_, h.a.other _ _ (by show w.heap.size ≠ w.heap.size + 1 + 1 + 1; omega), h.b.other _ _ (by show w.heap.size + 1 ≠ w.heap.size + 1 + 1 + 1; omega), h.r.other _ _ (by show w.heap.size + 1 + 1 ≠ w.heap.size + 1 + 1 + 1; omega), h.d.set k _, fun j hj => ?_⟩
  · show (wr.setCell _ _).heap.size = _
    rw [World.size_setCell]; exact h.sz
  · unfold upd
    by_cases e : j = k
    · subst e; simp
    · rw [if_neg e]; exact h.eq j (by omega)

set_option maxRecDepth 100000 in
set_option maxHeartbeats 800000 in
theorem distance (x y : Nat → Int) (w : World) :
    Calls Yba.prog 26 #[idV x, idV y] w fun e w' => ∃ z, e = .returned (idV z) ∧ (∀ j, j < 20 → z j = bits .xor .u8 (x j) (y j)) ∧ Below w.heap.size w w' := by
  unfold idV
  have HS : Hid (DInv w x y 0 ((((w.alloc (.cells (ids x).toArray 25)).alloc (.cells (ids y).toArray 25)).alloc (.cells (ids zid).toArray 25)).alloc (.cells (ids zid).toArray 25)) zid) := DInv.start w x y
  go_enter Yba.func26, Yba.ntmps26
  go_wp2
  go_loopw [7] (fun i wr => ∃ (k : Nat) (z : Nat → Int), k ≤ 20 ∧ i = .int .i64 k ∧ DInv w x y k wr z) (fun i _ => 20 - (intOf i).toNat)
  case atStart => exact ⟨0, zid, by omega, rfl, HS.out⟩
  case round =>
    obtain ⟨k, z, hk, rfl, hin⟩ := hrel
    have HD : Hid (DInv w x y k wr z) := hin
    clear hin
    by_cases hlt : (k : Int) < 20
    · have h0 : (0 : Int) ≤ (k : Int) := Int.natCast_nonneg _
      have cx := HD.out.a.cell k (by omega)
      have cy := HD.out.b.cell k (by omega)
      have cz := HD.out.d.cell k (by omega)
      have fz := HD.out.d.frozen k
      go_wp2
      go_region
      go_wp2
      go_roundw
      case rel => exact ⟨k + 1, _, by omega, by go_num, HD.out.next⟩
      case measure => simp [intOf]; omega
    · have e : k = 20 := by omega
      subst e
      go_wp2_with (first | (refine wpList_load_row rfl 25 _ rfl (w.heap.size + 1 + 1 + 1) rfl 25 (ids z).toArray (0, 0) _ HD.out.d Yba.underlying25 rfl (by rw [ids_size]; exact info25) ?_) | (refine wpList_store_row rfl 25 _ _ rfl (w.heap.size + 1 + 1) (ids z).toArray rfl rfl 25 (ids zid).toArray HD.out.r (by rw [ids_size]; exact info25) (by simp [ids]) (ids_one z) ?_))
      have hr : (wr.setRow (w.heap.size + 1 + 1) (ids z).toArray).heap[w.heap.size + 1 + 1]? = some (.cells (ids z).toArray 25 (0, 0)) := setRow_heap wr _ _ _ _ _ HD.out.r
      have hbel : Below w.heap.size w (wr.setRow (w.heap.size + 1 + 1) (ids z).toArray) := ⟨HD.out.bel.os, HD.out.bel.tape, HD.out.bel.output, by rw [setRow_size]; exact HD.out.bel.size, fun j hj => by rw [setRow_other _ _ _ _ (by omega)]; exact HD.out.bel.block j hj⟩
      exact bodyPost_ret (v := .agg (ids z).toArray) (results_cell_row Yba.results26 _ _ (w.heap.size + 1 + 1) 25 _ _ _ rfl hr Yba.underlying25 rfl (by rw [ids_size]; exact info25)) rfl ⟨z, rfl, HD.out.eq, hbel⟩
end Go.Proofs.Ybulkcucc
