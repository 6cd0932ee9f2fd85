/-
  WHAT HOLDS OF THE TABLE AS THE LAW FILLS IT: each bucket's row of entries, apart from each other. No walk here.
-/
import Derived.Test.YbulkcuccMem
import Derived.Deep.AppendLies
namespace Go.Proofs.Ybulkcucc
open Go.RowKit
set_option linter.unusedVariables false

/-- The cells of a row of entries. -/
def flat (es : List ((Nat → Int) × Int)) : List Value := es.flatMap fun e => ent e.1 e.2
theorem flat_snoc (es : List ((Nat → Int) × Int)) (x : Nat → Int) (p : Int) : flat (es ++ [(x, p)]) = flat es ++ ent x p := by simp [flat]
theorem flat_length (es : List ((Nat → Int) × Int)) : (flat es).length = es.length * 31 := by
  induction es with
  | nil => rfl
  | cons e es ih =>
    simp only [flat, List.flatMap_cons, List.length_append, ent_length, List.length_cons] at ih ⊢
    omega
theorem flat_get : ∀ (es : List ((Nat → Int) × Int)) (i j : Nat) (hi : i < es.length), j < 31 → (flat es)[i * 31 + j]? = (ent es[i].1 es[i].2)[j]?
  | [], _, _, hi, _ => by simp at hi
  | e :: es, 0, j, hi, hj => by
    simp only [flat, List.flatMap_cons, Nat.zero_mul, Nat.zero_add, List.getElem_cons_zero]
    rw [List.getElem?_append_left (by rw [ent_length]; exact hj)]
  | e :: es, i + 1, j, hi, hj => by
    have ih := flat_get es i j (by simpa using hi) hj
    simp only [flat, List.flatMap_cons, List.getElem_cons_succ] at ih ⊢
    rw [List.getElem?_append_right (by rw [ent_length]; omega), ent_length, show (i + 1) * 31 + j - 31 = i * 31 + j by omega]
    exact ih

/-- The k-th entry's ID and port, as functions of the index. -/
def eX (es : List ((Nat → Int) × Int)) (k : Nat) : Nat → Int := (es.getD k (zid, 0)).1
def eP (es : List ((Nat → Int) × Int)) (k : Nat) : Int := (es.getD k (zid, 0)).2

theorem row_range {w : World} {base : Nat} {v : Value} {es : List ((Nat → Int) × Int)} (h : w.ownsRow base 55 31 v es.length (flat es)) (hp : 0 < es.length) :
    ∃ g c, v = .slice (some ⟨g, 0, none⟩) es.length c ∧ ∀ k, k < es.length → w.rangeAt g (k * 31) (ent (eX es k) (eP es k)) := by
  rcases h.2 with ⟨_, h0⟩ | ⟨g, c, cur, hv, _, hh, h1, h2, h3, h4⟩
  · omega
  · refine ⟨g, c, hv, fun k hk j u hu => ?_⟩
    have hj : j < 31 := by
      rcases Nat.lt_or_ge j 31 with hl | hl
      · exact hl
      · rw [List.getElem?_eq_none (by rw [ent_length]; exact hl)] at hu; cases hu
    have e : es.getD k (zid, 0) = es[k] := by simp [List.getD, List.getElem?_eq_getElem hk]
    unfold eX eP at hu
    rw [e, ← flat_get es k j hk hj, ← h4] at hu
    rw [cell_of_row w g (k * 31 + j) cur 55 (0, 0) hh]
    rw [List.getElem?_take_of_lt (by omega)] at hu
    simpa using hu
theorem row_zero {w : World} {base : Nat} {v : Value} {xs : List Value} (h : w.ownsRow base 55 31 v 0 xs) : ∃ a c, v = .slice a 0 c := by
  rcases h.2 with ⟨h1, _⟩ | ⟨g, cp, cur, hv, _⟩
  · exact ⟨_, _, h1⟩
  · exact ⟨_, _, hv⟩

theorem own_ge {w : World} {base : Nat} {e : TypeId} {size : Nat} {v : Value} {n : Nat} {xs : List Value} (h : w.ownsRow base e size v n xs) : ∀ g, v.ownBlock = some g → base ≤ g ∧ g < w.heap.size := by
  intro g hg
  rcases h.2 with ⟨rfl, _⟩ | ⟨g', cap, cur, rfl, hb, hh, _⟩
  · cases hg
  · have e : g' = g := by simpa [Value.ownBlock] using hg
    subst e
    refine ⟨hb, ?_⟩
    rcases Nat.lt_or_ge g' w.heap.size with hlt | hge
    · exact hlt
    · rw [Array.getElem?_eq_none hge] at hh; cases hh
/-- A row whose block is as it was is owned as it was. -/
theorem own_same {w w' : World} {base : Nat} {e : TypeId} {size : Nat} {v : Value} {n : Nat} {xs : List Value} (h : w.ownsRow base e size v n xs) (hb : ∀ g, v.ownBlock = some g → w'.heap[g]? = w.heap[g]?) : w'.ownsRow base e size v n xs := by
  refine ⟨h.1, ?_⟩
  rcases h.2 with h1 | ⟨g, cap, cur, rfl, h2, hh, h3⟩
  · exact .inl h1
  · exact .inr ⟨g, cap, cur, rfl, h2, by rw [hb g rfl]; exact hh, h3⟩

theorem addr_ne {a b i j : Nat} (h : a ≠ b) : (⟨a, i, none⟩ : Addr) ≠ ⟨b, j, none⟩ := fun e => h (congrArg Addr.block e)
theorem addr_off {a b i j : Nat} (h : i ≠ j) : (⟨a, i, none⟩ : Addr) ≠ ⟨b, j, none⟩ := fun e => h (congrArg Addr.off e)

structure LInv (w : World) (s : Nat → Int) (n T Bk k : Nat) (wr : World) (V : Nat → Value) (E : Nat → List ((Nat → Int) × Int)) : Prop where
  bel : Below w.heap.size w wr
  sz : w.heap.size + 1 + 1 + 1 ≤ wr.heap.size
  tb : (T = w.heap.size + 1 ∧ Bk = w.heap.size + 1 + 1) ∨ (T = w.heap.size + 1 + 1 ∧ Bk = w.heap.size + 1)
  self : wr.rangeAt w.heap.size 0 (ids s)
  tab : wr.rangeAt T 0 (tabC s (.slice (some ⟨Bk, 0, none⟩) n n))
  ev : ∀ j, j < n → wr.cell? ⟨Bk, j * 5, none⟩ = some (V j)
  fz : ∀ j, j < n → wr.frozen? ⟨Bk, j * 5, none⟩ = false
  own : ∀ j, j < n → wr.ownsRow (w.heap.size + 1 + 1 + 1) 55 31 (V j) (E j).length (flat (E j))
  sep : ∀ i j, i < n → j < n → i ≠ j → ∀ b, (V i).ownBlock = some b → (V j).ownBlock ≠ some b
  cnt : ∀ j, j < n → (E j).length ≤ k

theorem zbs_get (j : Nat) : ∀ n, j < n → (zbs n)[j * 5]? = some (.slice none 0 0) := by
  induction j with
  | zero =>
    intro n h
    cases n with
    | zero => omega
    | succ n => simp [zbs, List.replicate_succ, zb]
  | succ j ih =>
    intro n h
    cases n with
    | zero => omega
    | succ n =>
      have := ih n (by omega)
      simp only [zbs, List.replicate_succ, List.flatten_cons] at this ⊢
      rw [List.getElem?_append_right (by simp [zb]; omega)]
      have e : (j + 1) * 5 - zb.length = j * 5 := by simp [zb]; omega
      rw [e]; exact this

theorem LInv.start {w W : World} {s : Nat → Int} {n T Bk : Nat} (h : Made w W s n T Bk) : LInv w s n T Bk 0 W (fun _ => .slice none 0 0) (fun _ => []) := by
  refine ⟨h.bel, by rw [h.sz]; exact Nat.le_refl _, h.tb, h.self, h.tab, fun j hj => ?_, fun j hj => frozen_of_row W Bk _ _ 53 h.bks, fun j hj => ⟨rfl, .inl ⟨rfl, rfl⟩⟩, (fun i j _ _ _ b hb => by cases hb), fun j hj => Nat.le_refl _⟩
  rw [cell_of_row W Bk _ _ 53 _ h.bks]
  simpa using zbs_get j n hj

section
variable {w : World} {s : Nat → Int} {n T Bk k : Nat} {wr : World} {V : Nat → Value} {E : Nat → List ((Nat → Int) × Int)}

theorem LInv.tlt (h : LInv w s n T Bk k wr V E) : T < wr.heap.size ∧ Bk < wr.heap.size ∧ w.heap.size < T ∧ w.heap.size < Bk ∧ T < w.heap.size + 1 + 1 + 1 ∧ Bk < w.heap.size + 1 + 1 + 1 ∧ T ≠ Bk := by
  have := h.sz
  rcases h.tb with ⟨rfl, rfl⟩ | ⟨rfl, rfl⟩ <;> omega
theorem LInv.below {wr' : World} (h : LInv w s n T Bk k wr V E) (hb : Below wr.heap.size wr wr') : LInv w s n T Bk k wr' V E := by
  have ht := h.tlt
  have hz := hb.size
  have hs := h.sz
  exact ⟨h.bel.trans (hb.mono (by omega)), by omega, h.tb, rangeAt_below hb (by omega) h.self, rangeAt_below hb ht.1 h.tab,
    fun j hj => by rw [hb.cell (p := ⟨Bk, j * 5, none⟩) ht.2.1]; exact h.ev j hj, fun j hj => by rw [hb.frozen (p := ⟨Bk, j * 5, none⟩) ht.2.1]; exact h.fz j hj,
    fun j hj => own_same (h.own j hj) (fun g hg => hb.block g (own_ge (h.own j hj) g hg).2), h.sep, h.cnt⟩
theorem LInv.tid (h : LInv w s n T Bk k wr V E) : wr.rangeAt T 0 (ids s) := fun j v hv => h.tab j v (by
  unfold tabC
  rw [List.getElem?_append_left (by
    rcases Nat.lt_or_ge j (ids s).length with hl | hl
    · exact hl
    · rw [List.getElem?_eq_none hl] at hv; cases hv)]
  exact hv)
theorem LInv.c20 (h : LInv w s n T Bk k wr V E) : wr.cell? ⟨T, 20, none⟩ = some (.slice (some ⟨Bk, 0, none⟩) n n) := by
  have := h.tab 20 (.slice (some ⟨Bk, 0, none⟩) n n) (by
    unfold tabC
    rw [List.getElem?_append_right (by rw [ids_length]; omega), ids_length]
    rfl)
  simpa using this

/-- Behind the append and the store into the bucket. -/
theorem LInv.next {w1 : World} {g cp b : Nat} {x : Nat → Int} {p : Int} {o : Obj} (h : LInv w s n T Bk k wr V E) (hb : b < n) (hgrow : (wr.alloc o).drew.grownBy w1 (V b).ownBlock)
    (hown : w1.ownsRow (w.heap.size + 1 + 1 + 1) 55 31 (.slice (some ⟨g, 0, none⟩) ((E b).length + 1) cp) ((E b).length + 1) (flat (E b) ++ ent x p))
    (hat : (V b).ownBlock = some g ∨ g = wr.heap.size + 1) :
    LInv w s n T Bk (k + 1) (w1.setCell ⟨Bk, b * 5, none⟩ (.slice (some ⟨g, 0, none⟩) ((E b).length + 1) cp)) (fun j => if j = b then .slice (some ⟨g, 0, none⟩) ((E b).length + 1) cp else V j) (fun j => if j = b then E b ++ [(x, p)] else E j) := by
  have ht := h.tlt
  have hs := h.sz
  have hz : (wr.alloc o).drew.heap.size = wr.heap.size + 1 := by show (wr.alloc o).heap.size = _; simp
  have hg := hgrow.size
  have hV := fun j hj => own_ge (h.own j hj)
  have far : ∀ j, j < wr.heap.size → some j ≠ (V b).ownBlock → w1.heap[j]? = wr.heap[j]? := fun j hj hne => by
    rw [hgrow.block j (by omega) hne]
    show (wr.alloc o).heap[j]? = _
    exact Below.heap_alloc _ _ _ hj
  have low : ∀ j, j < w.heap.size + 1 + 1 + 1 → some j ≠ (V b).ownBlock := fun j hj e => by have := (hV b hb j e.symm).1; omega
  have b1 : Below w.heap.size w w1 := by
    have c : Below w.heap.size w (wr.alloc o).drew := (h.bel.alloc (by omega) _).drew
    exact c.grown hgrow (by omega) (fun j hj => by have := (hV b hb j hj).1; omega)
  have cellB : w1.cell? ⟨Bk, b * 5, none⟩ = some (V b) := by
    rw [World.cell?_of_block (a := ⟨Bk, b * 5, none⟩) (far Bk ht.2.1 (low Bk ht.2.2.2.2.2.1))]; exact h.ev b hb
  refine ⟨b1.setCell (by show w.heap.size ≤ Bk; omega) _, by rw [World.size_setCell]; omega, h.tb, ?_, ?_, ?_, ?_, ?_, ?_, ?_⟩
  · intro j v hv
    rw [World.cell?_setCell_other _ _ _ _ (addr_ne (by omega)), World.cell?_of_block (a := ⟨w.heap.size, 0 + j, none⟩) (far w.heap.size (by omega) (low w.heap.size (by omega)))]
    exact h.self j v hv
  · intro j v hv
    rw [World.cell?_setCell_other _ _ _ _ (addr_ne (by omega)), World.cell?_of_block (a := ⟨T, 0 + j, none⟩) (far _ ht.1 (low _ ht.2.2.2.2.1))]
    exact h.tab j v hv
  · intro j hj
    by_cases e : j = b
    · subst e
      simp only [if_true]
      exact World.cell?_setCell_same _ _ _ cellB
    · simp only [if_neg e]
      rw [World.cell?_setCell_other _ _ _ _ (addr_off (by omega)), World.cell?_of_block (a := ⟨Bk, j * 5, none⟩) (far Bk ht.2.1 (low Bk ht.2.2.2.2.2.1))]
      exact h.ev j hj
  · intro j hj
    rw [World.frozen?_setCell, World.frozen?_of_block (a := ⟨Bk, j * 5, none⟩) (far Bk ht.2.1 (low Bk ht.2.2.2.2.2.1))]
    exact h.fz j hj
  · intro j hj
    by_cases e : j = b
    · subst e
      simp only [if_true, List.length_append, List.length_cons, List.length_nil, flat_snoc]
      exact ownsRow_setCell_below hown (by show Bk < _; omega) _
    · simp only [if_neg e]
      refine own_same (h.own j hj) (fun i hi => ?_)
      have hi' := hV j hj i hi
      rw [heap_setCell_other _ _ _ _ (by show i ≠ Bk; omega), far i hi'.2 (fun c => h.sep j b hj hb e i hi c.symm)]
  · intro i j hi hj hij c hc
    by_cases ei : i = b
    · subst ei
      have ej : ¬ j = i := fun e => hij e.symm
      simp only [if_true] at hc
      simp only [if_neg ej]
      have hc' : g = c := by simpa [Value.ownBlock] using hc
      intro hj'
      rcases hat with hat | hat
      · exact h.sep i j hi hj hij c (by rw [hat, hc']) hj'
      · have := (hV j hj c hj').2; omega
    · simp only [if_neg ei] at hc
      by_cases ej : j = b
      · subst ej
        simp only [if_true]
        intro hj'
        have hc' : g = c := by simpa [Value.ownBlock] using hj'
        rcases hat with hat | hat
        · exact h.sep i j hi hj hij c hc (by rw [hat, hc'])
        · have := (hV i hi c hc).2; omega
      · simp only [if_neg ej]
        exact h.sep i j hi hj hij c hc
  · intro j hj
    by_cases e : j = b
    · subst e; simp only [if_true, List.length_append, List.length_cons, List.length_nil]; have := h.cnt j hj; omega
    · simp only [if_neg e]; have := h.cnt j hj; omega
end
end Go.Proofs.Ybulkcucc
