/-
  THE CONTRACT OF (*table).entry (9).
-/
import Derived.Test.YbulkcuccFind
namespace Go.Proofs.Ybulkcucc
open Go.RowKit
set_option linter.unusedVariables false

theorem con_ids {w : World} {b o : Nat} {x : Nat → Int} {p : Int} (h : w.rangeAt b o (con x p)) : w.rangeAt b o (ids x) := fun j v hv => h j v (by
  unfold con
  rw [List.getElem?_append_left (by
    rcases Nat.lt_or_ge j (ids x).length with hl | hl
    · exact hl
    · rw [List.getElem?_eq_none hl] at hv; cases hv)]
  exact hv)

/-- A region that draws, its operations written out, at a class of worlds of one's own. -/
theorem wp_region_class {P : Program} {id : Nat} {Q : Exit → Act → World → Prop} {a : Act} {w : World} {l : List Oper} (C : World → Prop) (hm : P.follows .mixedOrders = true) (hB : Region.lexB .any l.toArray = true) (hC : C w.drew)
    (h : wpQuiet P l.toArray C (fun a' => ∀ w', C w' → Q .normal a' w') l a) : (Code.region id l.toArray true).wp P Q a w :=
  wp_region_quiet (C := C) hm hB hC (by simpa using h)

/-- The bucket of an ID. -/
def bk (y s : Nat → Int) (n : Nat) : Nat := min (sh y s) (n - 1)
theorem bk_lt (y s : Nat → Int) (n : Nat) (h : 1 ≤ n) : bk y s n < n := by unfold bk; omega

set_option maxRecDepth 100000 in
set_option maxHeartbeats 1600000 in
theorem entry (T Bk n g c L : Nat) (X : Nat → Nat → Int) (Pp : Nat → Int) (s y : Nat → Int) (q : Int) (hs : Bytes s) (hy : Bytes y) (w : World) (hL : L ≤ 1024)
    (hS : IdAt w T 0 s) (hb : w.cell? ⟨T, 20, none⟩ = some (.slice (some ⟨Bk, 0, none⟩) n n)) (n0 : 1 ≤ n) (n1 : n ≤ 12) (hv : w.cell? ⟨Bk, bk y s n * 5, none⟩ = some (.slice (some ⟨g, 0, none⟩) L c))
    (hrow : ∀ k, k < L → w.rangeAt g (k * 31) (ent (X k) (Pp k))) :
    Calls Yba.prog 9 #[.pointer (some ⟨T, 0, none⟩), .agg (con y q).toArray] w fun e w' =>
      ((∃ k : Nat, k < L ∧ e = .returned (.pointer (some ⟨g, k * 31, none⟩)) ∧ hit (X k) (Pp k) y q = true ∧ NoHit X Pp y q k) ∨ (e = .returned (.pointer none) ∧ NoHit X Pp y q L)) ∧ Below w.heap.size w w' := by
  have hT := hS.lt
  have hB : Bk < w.heap.size := World.block_lt_of_cell? w _ hv
  have B1 : Below w.heap.size w (w.alloc (.cells (con y q).toArray 46)) := (Below.refl _ _).alloc (Nat.le_refl _) _
  have r0 : (w.alloc (.cells (con y q).toArray 46)).rangeAt w.heap.size 0 (con y q) := range_block (heap_alloc_new w _)
  have r1 := con_ids r0
  have hS1 := hS.below B1 hT
  have c20 : (w.alloc (.cells (con y q).toArray 46)).cell? ⟨T, 20, none⟩ = some (.slice (some ⟨Bk, 0, none⟩) n n) := by rw [B1.cell (p := ⟨T, 20, none⟩) hT]; exact hb
  have cv : (w.alloc (.cells (con y q).toArray 46)).cell? ⟨Bk, bk y s n * 5, none⟩ = some (.slice (some ⟨g, 0, none⟩) L c) := by rw [B1.cell (p := ⟨Bk, _, none⟩) hB]; exact hv
  have z1 : (w.alloc (.cells (con y q).toArray 46)).heap.size = w.heap.size + 1 := by simp
  have bl0 : (0 : Int) ≤ ((bk y s n : Nat) : Int) := Int.natCast_nonneg _
  have bl1 : ((bk y s n : Nat) : Int) < (n : Int) := by have := bk_lt y s n n0; omega
  have hmf : ∀ (fn : Fn) (first cap : Array Value) (w : World), (Instr.makeFunc fn first cap).run Yba.prog w = .ok (.func fn first cap) w := fun _ _ _ _ => rfl
  have HR : Hid (∀ k, k < L → (w.alloc (.cells (con y q).toArray 46)).rangeAt g (k * 31) (ent (X k) (Pp k))) := fun k hk => World.rangeAt_alloc (hrow k hk) _
  clear hrow
  go_enter Yba.func9, Yba.ntmps9
  go_wp2_with fail
  refine wp_region_class (fun w' => Below (w.heap.size + 1) (w.alloc (.cells (con y q).toArray 46)) w') (by kernel_rfl) (by kernel_rfl) (Below.refl _ _).drew ?_
  go_big_quiet_step ((intro _; rfl))
  go_big_quiet_step ((intro _; rfl))
  go_big_quiet_step ((intro _; rfl))
  refine q_take rfl (v := .slice (some ⟨Bk, 0, none⟩) n n) (fun w' h => ?_) ?_
  · have c := (h.cell (p := ⟨T, 20, none⟩) (by show T < _; omega)).trans c20
    go_simp
  simp only [Act.put, List.setIfInBounds_toArray, List.set_cons_zero, List.set_cons_succ]
  go_big_quiet_step ((intro _; rfl))
  go_big_quiet_step ((intro _; rfl))
  refine q_load rfl 25 _ rfl w.heap.size 0 rfl (ids y) _ (fun w' h => rangeAt_below h (by omega) r1) Yba.underlying25 rfl (info25l y) ?_
  simp only [Act.put, List.setIfInBounds_toArray, List.set_cons_zero, List.set_cons_succ]
  refine q_call rfl 14 #[.pointer (some ⟨T, 0, none⟩), idV y] (v := .int .i64 (bk y s n : Nat)) (fun w' h => by unfold idV; go_simp) (fun w' h => (bucket T Bk n s y hy hs w' (hS1.below h (by omega)) ((h.cell (p := ⟨T, 20, none⟩) (by show T < _; omega)).trans c20) n0 n1).mono fun e w'' ⟨he, hb'⟩ => ⟨he, h.trans (hb'.mono (by have := h.size; omega))⟩) ?_
  simp only [Act.put, List.setIfInBounds_toArray, List.set_cons_zero, List.set_cons_succ]
  go_big_quiet_step ((intro _; rfl))
  go_big_quiet_step ((intro _; rfl))
  refine q_take rfl (v := .slice (some ⟨g, 0, none⟩) L c) (fun w' h => ?_) ?_
  · have c := (h.cell (p := ⟨Bk, bk y s n * 5, none⟩) (by show Bk < _; omega)).trans cv
    go_simp
  simp only [Act.put, List.setIfInBounds_toArray, List.set_cons_zero, List.set_cons_succ]
  go_big_quiet_step ((intro _; rfl))
  refine wpQuiet_nil ?_
  intro w2 h2
  have H2 : Hid (Below (w.heap.size + 1) (w.alloc (.cells (con y q).toArray 46)) w2) := h2
  clear h2
  go_wp2_with fail
  refine (indexFunc g c L w.heap.size X Pp y q _ hL (fun k hk => rangeAt_below H2.out (by have := ent_lt (HR.out k hk); omega) (HR.out k hk)) (rangeAt_below H2.out (by omega) r0)).mono ?_
  rintro e w3 ⟨hres, hb3⟩
  have HB : Hid (Below w.heap.size w w3) := B1.trans ((H2.out.mono (by omega)).trans (hb3.mono (by have := H2.out.size; omega)))
  clear hb3
  rcases hres with ⟨k, hk, rfl, hh, hno⟩ | ⟨rfl, hno⟩
  · have k0 : (0 : Int) ≤ (k : Int) := Int.natCast_nonneg _
    have k1 : (k : Int) < (L : Int) := by omega
    have HN : Hid (hit (X k) (Pp k) y q = true ∧ NoHit X Pp y q k) := ⟨hh, hno⟩
    clear hh hno
    go_wp2_with fail
    go_ret
    exact ⟨.inl ⟨k, hk, rfl, HN.out.1, HN.out.2⟩, HB.out⟩
  · have HN : Hid (NoHit X Pp y q L) := hno
    clear hno
    go_wp2_with fail
    go_ret
    exact ⟨.inr ⟨rfl, HN.out⟩, HB.out⟩

set_option maxRecDepth 100000 in
set_option maxHeartbeats 1600000 in
theorem entry0 (T Bk n c : Nat) (a : Option Addr) (s y : Nat → Int) (q : Int) (hs : Bytes s) (hy : Bytes y) (w : World)
    (hS : IdAt w T 0 s) (hb : w.cell? ⟨T, 20, none⟩ = some (.slice (some ⟨Bk, 0, none⟩) n n)) (n0 : 1 ≤ n) (n1 : n ≤ 12) (hv : w.cell? ⟨Bk, bk y s n * 5, none⟩ = some (.slice a 0 c)) :
    Calls Yba.prog 9 #[.pointer (some ⟨T, 0, none⟩), .agg (con y q).toArray] w fun e w' => e = .returned (.pointer none) ∧ Below w.heap.size w w' := by
  have hT := hS.lt
  have hB : Bk < w.heap.size := World.block_lt_of_cell? w _ hv
  have B1 : Below w.heap.size w (w.alloc (.cells (con y q).toArray 46)) := (Below.refl _ _).alloc (Nat.le_refl _) _
  have r0 : (w.alloc (.cells (con y q).toArray 46)).rangeAt w.heap.size 0 (con y q) := range_block (heap_alloc_new w _)
  have r1 := con_ids r0
  have hS1 := hS.below B1 hT
  have c20 : (w.alloc (.cells (con y q).toArray 46)).cell? ⟨T, 20, none⟩ = some (.slice (some ⟨Bk, 0, none⟩) n n) := by rw [B1.cell (p := ⟨T, 20, none⟩) hT]; exact hb
  have cv : (w.alloc (.cells (con y q).toArray 46)).cell? ⟨Bk, bk y s n * 5, none⟩ = some (.slice a 0 c) := by rw [B1.cell (p := ⟨Bk, _, none⟩) hB]; exact hv
  have z1 : (w.alloc (.cells (con y q).toArray 46)).heap.size = w.heap.size + 1 := by simp
  have bl0 : (0 : Int) ≤ ((bk y s n : Nat) : Int) := Int.natCast_nonneg _
  have bl1 : ((bk y s n : Nat) : Int) < (n : Int) := by have := bk_lt y s n n0; omega
  have hmf : ∀ (fn : Fn) (first cap : Array Value) (w : World), (Instr.makeFunc fn first cap).run Yba.prog w = .ok (.func fn first cap) w := fun _ _ _ _ => rfl
  go_enter Yba.func9, Yba.ntmps9
  go_wp2_with fail
  refine wp_region_class (fun w' => Below (w.heap.size + 1) (w.alloc (.cells (con y q).toArray 46)) w') (by kernel_rfl) (by kernel_rfl) (Below.refl _ _).drew ?_
  go_big_quiet_step ((intro _; rfl))
  go_big_quiet_step ((intro _; rfl))
  go_big_quiet_step ((intro _; rfl))
  refine q_take rfl (v := .slice (some ⟨Bk, 0, none⟩) n n) (fun w' h => ?_) ?_
  · have c := (h.cell (p := ⟨T, 20, none⟩) (by show T < _; omega)).trans c20
    go_simp
  simp only [Act.put, List.setIfInBounds_toArray, List.set_cons_zero, List.set_cons_succ]
  go_big_quiet_step ((intro _; rfl))
  go_big_quiet_step ((intro _; rfl))
  refine q_load rfl 25 _ rfl w.heap.size 0 rfl (ids y) _ (fun w' h => rangeAt_below h (by omega) r1) Yba.underlying25 rfl (info25l y) ?_
  simp only [Act.put, List.setIfInBounds_toArray, List.set_cons_zero, List.set_cons_succ]
  refine q_call rfl 14 #[.pointer (some ⟨T, 0, none⟩), idV y] (v := .int .i64 (bk y s n : Nat)) (fun w' h => by unfold idV; go_simp) (fun w' h => (bucket T Bk n s y hy hs w' (hS1.below h (by omega)) ((h.cell (p := ⟨T, 20, none⟩) (by show T < _; omega)).trans c20) n0 n1).mono fun e w'' ⟨he, hb'⟩ => ⟨he, h.trans (hb'.mono (by have := h.size; omega))⟩) ?_
  simp only [Act.put, List.setIfInBounds_toArray, List.set_cons_zero, List.set_cons_succ]
  go_big_quiet_step ((intro _; rfl))
  go_big_quiet_step ((intro _; rfl))
  refine q_take rfl (v := .slice a 0 c) (fun w' h => ?_) ?_
  · have c := (h.cell (p := ⟨Bk, bk y s n * 5, none⟩) (by show Bk < _; omega)).trans cv
    go_simp
  simp only [Act.put, List.setIfInBounds_toArray, List.set_cons_zero, List.set_cons_succ]
  go_big_quiet_step ((intro _; rfl))
  refine wpQuiet_nil ?_
  intro w2 h2
  have H2 : Hid (Below (w.heap.size + 1) (w.alloc (.cells (con y q).toArray 46)) w2) := h2
  clear h2
  go_wp2_with fail
  refine (indexFunc0 a c _ _).mono ?_
  rintro e w3 ⟨rfl, rfl⟩
  go_wp2_with fail
  go_ret
  exact ⟨rfl, B1.trans (H2.out.mono (by omega))⟩
end Go.Proofs.Ybulkcucc
