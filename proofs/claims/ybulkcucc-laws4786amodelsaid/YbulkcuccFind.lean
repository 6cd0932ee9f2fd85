/-
  THE CONTRACTS OF entry's closure (16) AND slices.IndexFunc (15).
-/
import Derived.Test.YbulkcuccCon
namespace Go.Proofs.Ybulkcucc
open Go.RowKit
set_option linter.unusedVariables false

theorem ent_con (x : Nat → Int) (p : Int) (w : World) (b o : Nat) (h : w.rangeAt b o (ent x p)) : w.rangeAt b o (con x p) := fun j v hv => h j v (by
  unfold ent
  rw [List.getElem?_append_left (by
    rcases Nat.lt_or_ge j (con x p).length with hl | hl
    · exact hl
    · rw [List.getElem?_eq_none hl] at hv; cases hv)]
  exact hv)
theorem range_block {w : World} {b : Nat} {cs : List Value} {t : TypeId} {fr : Nat × Nat} (h : w.heap[b]? = some (.cells cs.toArray t fr)) : w.rangeAt b 0 cs := fun j v hv => by
  rw [cell_of_row w b (0 + j) _ t fr h]
  simpa using hv

set_option maxRecDepth 100000 in
set_option maxHeartbeats 800000 in
theorem closure (x y : Nat → Int) (p q : Int) (cb : Nat) (w : World) (hc : w.rangeAt cb 0 (con y q)) :
    Calls Yba.prog 16 #[.agg (ent x p).toArray, .pointer (some ⟨cb, 0, none⟩)] w fun e w' => e = .returned (.bool (hit x p y q)) ∧ w' = w.alloc (.cells (ent x p).toArray 55) := by
  have r1 : (w.alloc (.cells (ent x p).toArray 55)).rangeAt w.heap.size 0 (con x p) := ent_con x p _ _ _ (range_block (heap_alloc_new w _))
  have r2 : (w.alloc (.cells (ent x p).toArray 55)).rangeAt cb 0 (con y q) := World.rangeAt_alloc hc _
  have he := eql46 x y p q
  have g := g46
  go_enter Yba.func16, Yba.ntmps16
  go_wp2_with (first | (refine wpList_load_mid rfl 46 _ rfl w.heap.size 0 rfl (con x p) _ r1 Yba.underlying46 rfl (info46l x p) ?_) | (refine wpList_load_mid rfl 46 _ rfl cb 0 rfl (con y q) _ r2 Yba.underlying46 rfl (info46l y q) ?_))
  go_ret
  exact ⟨rfl, rfl⟩

/-- None of the first k entries is the contact. -/
def NoHit (X : Nat → Nat → Int) (Pp : Nat → Int) (y : Nat → Int) (q : Int) (k : Nat) : Prop := ∀ j, j < k → hit (X j) (Pp j) y q = false
theorem range_lt {w : World} {b o : Nat} {cs : List Value} (h : w.rangeAt b o cs) (hp : 0 < cs.length) : b < w.heap.size := by
  have := h 0 cs[0] (by simp [List.getElem?_eq_getElem hp])
  exact World.block_lt_of_cell? w _ this
theorem ent_lt {w : World} {b o : Nat} {x : Nat → Int} {p : Int} (h : w.rangeAt b o (ent x p)) : b < w.heap.size := range_lt h (by rw [ent_length]; omega)
theorem con_lt {w : World} {b o : Nat} {x : Nat → Int} {p : Int} (h : w.rangeAt b o (con x p)) : b < w.heap.size := range_lt h (by rw [con_length]; omega)

set_option maxRecDepth 100000 in
set_option maxHeartbeats 800000 in
theorem indexFunc (g c L cb : Nat) (X : Nat → Nat → Int) (Pp : Nat → Int) (y : Nat → Int) (q : Int) (w : World) (hL : L ≤ 1024) (hrow : ∀ k, k < L → w.rangeAt g (k * 31) (ent (X k) (Pp k))) (hc : w.rangeAt cb 0 (con y q)) :
    Calls Yba.prog 15 #[.slice (some ⟨g, 0, none⟩) L c, .func (Fn.func 16) #[] #[.pointer (some ⟨cb, 0, none⟩)]] w fun e w' =>
      ((∃ k : Nat, k < L ∧ e = .returned (.int .i64 k) ∧ hit (X k) (Pp k) y q = true ∧ NoHit X Pp y q k) ∨ (e = .returned (.int .i64 (-1)) ∧ NoHit X Pp y q L)) ∧ Below w.heap.size w w' := by
  have HR : Hid (∀ k, k < L → w.rangeAt g (k * 31) (ent (X k) (Pp k))) := hrow
  have HC : Hid (w.rangeAt cb 0 (con y q)) := hc
  clear hrow hc
  go_enter Yba.func15, Yba.ntmps15
  go_wp2_with fail
  go_loopw [8] (fun i wr => ∃ k : Nat, k ≤ L ∧ i = .int .i64 k ∧ Below w.heap.size w wr ∧ NoHit X Pp y q k) (fun i _ => L - (intOf i).toNat)
  case atStart => exact ⟨0, by omega, rfl, Below.refl _ _, fun j hj => by omega⟩
  case round =>
    obtain ⟨k, hk, rfl, hbel, hno⟩ := hrel
    have HB : Hid (Below w.heap.size w wr ∧ NoHit X Pp y q k) := ⟨hbel, hno⟩
    by_cases hlt : (k : Int) < (L : Int)
    · have hr0 := HR.out k (by omega)
      have r1 : wr.rangeAt g (k * 31) (ent (X k) (Pp k)) := rangeAt_below hbel (ent_lt hr0) hr0
      have r2 : wr.rangeAt cb 0 (con y q) := rangeAt_below hbel (con_lt HC.out) HC.out
      have h0 : (0 : Int) ≤ (k : Int) := Int.natCast_nonneg _
      clear hbel hno hr0
      cases hh : hit (X k) (Pp k) y q
      · go_wp2_with (first | (refine wpList_load_mid rfl 55 _ rfl g (k * 31) rfl (ent (X k) (Pp k)) _ r1 Yba.underlying55 rfl (info55l (X k) (Pp k)) ?_) | (go_at_call 16; refine (closure (X k) y (Pp k) q cb _ r2).mono ?_; rintro e w' ⟨rfl, rfl⟩))
        go_roundw
        case rel => exact ⟨k + 1, by omega, by go_num, HB.out.1.alloc HB.out.1.size _, fun j hj => by
          by_cases e : j = k
          · subst e; exact hh
          · exact HB.out.2 j (by omega)⟩
        case measure => simp [intOf]; omega
      · go_wp2_with (first | (refine wpList_load_mid rfl 55 _ rfl g (k * 31) rfl (ent (X k) (Pp k)) _ r1 Yba.underlying55 rfl (info55l (X k) (Pp k)) ?_) | (go_at_call 16; refine (closure (X k) y (Pp k) q cb _ r2).mono ?_; rintro e w' ⟨rfl, rfl⟩))
        go_ret
        exact ⟨.inl ⟨k, by omega, rfl, hh, HB.out.2⟩, HB.out.1.alloc HB.out.1.size _⟩
    · clear hbel hno
      have e : k = L := by omega
      subst e
      go_wp2_with fail
      go_ret
      exact ⟨.inr ⟨rfl, HB.out.2⟩, HB.out.1⟩

set_option maxRecDepth 100000 in
set_option maxHeartbeats 800000 in
theorem indexFunc0 (a : Option Addr) (c : Nat) (f : Value) (w : World) :
    Calls Yba.prog 15 #[.slice a 0 c, f] w fun e w' => e = .returned (.int .i64 (-1)) ∧ w' = w := by
  go_enter Yba.func15, Yba.ntmps15
  go_wp2_with fail
  go_loop [8] (fun i => i = .int .i64 0) (fun _ => 0)
  case atStart => rfl
  case round =>
    subst hrel
    go_wp2_with fail
    go_ret
    exact ⟨rfl, rfl⟩
end Go.Proofs.Ybulkcucc
