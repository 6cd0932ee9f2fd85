/-
  SMALL LAWS ON MEMORY: many cells stored at once; a block that is known whole. No walk here.
-/
import Derived.Test.YbulkcuccOrders
import Derived.Test.YbulkcuccTable
import Derived.Test.YbulkcuccMake
namespace Go.Proofs.Ybulkcucc
open Go.RowKit
set_option linter.unusedVariables false

theorem heap_setCells_other (b k : Nat) (h : k ≠ b) : ∀ (vs : List Value) (o : Nat) (w : World), (w.setCells b o vs).heap[k]? = w.heap[k]?
  | [], _, _ => rfl
  | v :: vs, o, w => by
    show ((w.setCell ⟨b, o, none⟩ v).setCells b (o + 1) vs).heap[k]? = _
    rw [heap_setCells_other b k h vs (o + 1) _, heap_setCell_other w _ k v h]
theorem size_setCells (b : Nat) : ∀ (vs : List Value) (o : Nat) (w : World), (w.setCells b o vs).heap.size = w.heap.size
  | [], _, _ => rfl
  | v :: vs, o, w => by
    show ((w.setCell ⟨b, o, none⟩ v).setCells b (o + 1) vs).heap.size = _
    rw [size_setCells b vs (o + 1) _, World.size_setCell]
theorem below_setCells {B : Nat} {a : World} (b : Nat) (hb : B ≤ b) : ∀ (vs : List Value) (o : Nat) (w : World), Below B a w → Below B a (w.setCells b o vs)
  | [], _, _, h => h
  | v :: vs, o, w, h => below_setCells b hb vs (o + 1) _ (h.setCell (p := ⟨b, o, none⟩) hb v)
theorem there_block {w : World} {b : Nat} {C : Array Value} {t : TypeId} (h : w.heap[b]? = some (.cells C t (0, 0))) (n : Nat) (hn : n ≤ C.size) : w.there b 0 n := fun j hj => by
  refine ⟨?_, frozen_of_row w b _ C t h⟩
  rw [cell_of_row w b _ C t _ h]
  simp; omega
theorem ids_cell (x : Nat → Int) : ∀ v ∈ ids x, v.oneCell' = true := fun v hv => by
  simp only [ids, List.mem_map] at hv
  obtain ⟨i, _, rfl⟩ := hv
  rfl
theorem tabC_length (s : Nat → Int) (v : Value) : (tabC s v).length = 23 := by simp [tabC, ids_length]
theorem tabC_cell (s : Nat → Int) (a : Option Addr) (n c : Nat) : ∀ v ∈ tabC s (.slice a n c), v.oneCell' = true := fun v hv => by
  rcases List.mem_append.1 hv with h | h
  · exact ids_cell s v h
  · simp only [List.mem_cons, List.not_mem_nil, or_false] at h
    rcases h with rfl | rfl | rfl <;> rfl
theorem con_cell (x : Nat → Int) (p : Int) : ∀ v ∈ con x p, v.oneCell' = true := fun v hv => by
  rcases List.mem_append.1 hv with h | h
  · exact ids_cell x v h
  · simp only [adr, List.mem_cons, List.not_mem_nil, or_false] at h
    rcases h with rfl | rfl | rfl | rfl <;> rfl
theorem ent_cell (x : Nat → Int) (p : Int) : ∀ v ∈ ent x p, v.oneCell' = true := fun v hv => by
  rcases List.mem_append.1 hv with h | h
  · exact con_cell x p v h
  · simp only [rest7, List.mem_cons, List.not_mem_nil, or_false] at h
    rcases h with rfl | rfl | rfl | rfl | rfl | rfl | rfl <;> rfl
theorem info30l (s : Nat → Int) (v : Value) : (Yba.prog.info? 30).map (·.size) = some (tabC s v).length := by rw [tabC_length]; kernel_rfl
theorem info22l (s : Nat → Int) : (Yba.prog.info? 22).map (·.size) = some (ids s).length := by rw [ids_length]; exact info22
theorem heap3_0 (w : World) (A B C : Obj) : (((w.alloc A).alloc B).alloc C).heap[w.heap.size]? = some A := by
  rw [Below.heap_alloc _ _ _ (by simp; omega)]; exact heap_alloc2_old w A B

/-- What the table is made: behind region 4. -/
structure Made (w W : World) (s : Nat → Int) (n T Bk : Nat) : Prop where
  bel : Below w.heap.size w W
  sz : W.heap.size = w.heap.size + 1 + 1 + 1
  tb : (T = w.heap.size + 1 ∧ Bk = w.heap.size + 1 + 1) ∨ (T = w.heap.size + 1 + 1 ∧ Bk = w.heap.size + 1)
  self : W.rangeAt w.heap.size 0 (ids s)
  tab : W.rangeAt T 0 (tabC s (.slice (some ⟨Bk, 0, none⟩) n n))
  bks : W.heap[Bk]? = some (.cells (zbs n).toArray 53 (0, 0))

/-- 'make' first. -/
theorem Made.one (w : World) (s : Nat → Int) (n : Nat) :
    Made w ((((w.alloc (.cells (ids s).toArray 22)).alloc (.cells (zbs n).toArray 53)).alloc (.cells (tabC zid (.slice none 0 0)).toArray 30)).drew.setCells (w.heap.size + 1 + 1) 0 (tabC s (.slice (some ⟨w.heap.size + 1, 0, none⟩) n n))) s n (w.heap.size + 1 + 1) (w.heap.size + 1) := by
  have h0 := heap3_0 w (.cells (ids s).toArray 22) (.cells (zbs n).toArray 53) (.cells (tabC zid (.slice none 0 0)).toArray 30)
  have h1 := heap3_1 w (.cells (ids s).toArray 22) (.cells (zbs n).toArray 53) (.cells (tabC zid (.slice none 0 0)).toArray 30)
  have h2 := heap3_2 w (.cells (ids s).toArray 22) (.cells (zbs n).toArray 53) (.cells (tabC zid (.slice none 0 0)).toArray 30)
  have b1 : Below w.heap.size w (((w.alloc (.cells (ids s).toArray 22)).alloc (.cells (zbs n).toArray 53)).alloc (.cells (tabC zid (.slice none 0 0)).toArray 30)) := (((Below.refl _ _).alloc (Nat.le_refl _) _).alloc (by simp) _).alloc (by simp; omega) _
  have z : (((w.alloc (.cells (ids s).toArray 22)).alloc (.cells (zbs n).toArray 53)).alloc (.cells (tabC zid (.slice none 0 0)).toArray 30)).heap.size = w.heap.size + 1 + 1 + 1 := by simp
  generalize ((w.alloc (.cells (ids s).toArray 22)).alloc (.cells (zbs n).toArray 53)).alloc (.cells (tabC zid (.slice none 0 0)).toArray 30) = V at h0 h1 h2 b1 z ⊢
  have ht : V.drew.there (w.heap.size + 1 + 1) 0 (tabC s (.slice (some ⟨w.heap.size + 1, 0, none⟩) n n)).length := there_block (w := V.drew) h2 _ (by simp [tabC_length])
  refine ⟨below_setCells _ (by omega) _ _ _ b1.drew, by rw [size_setCells]; exact z, .inr ⟨rfl, rfl⟩, ?_, World.rangeAt_setCells_same _ _ _ _ ht, ?_⟩
  · exact World.rangeAt_setCells_apart (w := V.drew) (range_block (w := V.drew) h0) _ _ _ (.inl (by omega))
  · rw [heap_setCells_other _ _ (by omega)]; exact h1
/-- The table's variable first. -/
theorem Made.two (w : World) (s : Nat → Int) (n : Nat) :
    Made w ((((w.alloc (.cells (ids s).toArray 22)).alloc (.cells (tabC zid (.slice none 0 0)).toArray 30)).alloc (.cells (zbs n).toArray 53)).drew.setCells (w.heap.size + 1) 0 (tabC s (.slice (some ⟨w.heap.size + 1 + 1, 0, none⟩) n n))) s n (w.heap.size + 1) (w.heap.size + 1 + 1) := by
  have h0 := heap3_0 w (.cells (ids s).toArray 22) (.cells (tabC zid (.slice none 0 0)).toArray 30) (.cells (zbs n).toArray 53)
  have h1 := heap3_1 w (.cells (ids s).toArray 22) (.cells (tabC zid (.slice none 0 0)).toArray 30) (.cells (zbs n).toArray 53)
  have h2 := heap3_2 w (.cells (ids s).toArray 22) (.cells (tabC zid (.slice none 0 0)).toArray 30) (.cells (zbs n).toArray 53)
  have b1 : Below w.heap.size w (((w.alloc (.cells (ids s).toArray 22)).alloc (.cells (tabC zid (.slice none 0 0)).toArray 30)).alloc (.cells (zbs n).toArray 53)) := (((Below.refl _ _).alloc (Nat.le_refl _) _).alloc (by simp) _).alloc (by simp; omega) _
  have z : (((w.alloc (.cells (ids s).toArray 22)).alloc (.cells (tabC zid (.slice none 0 0)).toArray 30)).alloc (.cells (zbs n).toArray 53)).heap.size = w.heap.size + 1 + 1 + 1 := by simp
  generalize ((w.alloc (.cells (ids s).toArray 22)).alloc (.cells (tabC zid (.slice none 0 0)).toArray 30)).alloc (.cells (zbs n).toArray 53) = V at h0 h1 h2 b1 z ⊢
  have ht : V.drew.there (w.heap.size + 1) 0 (tabC s (.slice (some ⟨w.heap.size + 1 + 1, 0, none⟩) n n)).length := there_block (w := V.drew) h1 _ (by simp [tabC_length])
  refine ⟨below_setCells _ (by omega) _ _ _ b1.drew, by rw [size_setCells]; exact z, .inl ⟨rfl, rfl⟩, ?_, World.rangeAt_setCells_same _ _ _ _ ht, ?_⟩
  · exact World.rangeAt_setCells_apart (w := V.drew) (range_block (w := V.drew) h0) _ _ _ (.inl (by omega))
  · rw [heap_setCells_other _ _ (by omega)]; exact h2
end Go.Proofs.Ybulkcucc
