/-
  THE CONTRACT OF (*table).bucket (14).
-/
import Derived.Test.YbulkcuccBucket
namespace Go.Proofs.Ybulkcucc
open Go.RowKit
set_option linter.unusedVariables false

theorem rangeAt_below {B : Nat} {w w' : World} {b o : Nat} {cs : List Value} (hb : Below B w w') (hB : b < B) (h : w.rangeAt b o cs) : w'.rangeAt b o cs := fun j v hv => by
  rw [hb.cell (p := ⟨b, o + j, none⟩) hB]; exact h j v hv

section
variable {P : Program} {ops : Array Oper} {C : World → Prop} {Q : Act → Prop} {a : Act} {o : Oper} {rest : List Oper} {v : Value}
/-- An operation of a region that draws, which yields one value in every world of the class. -/
theorem q_take (hw : Region.wanted o (yielded ops a.tmps) = true) (h : ∀ w, C w → (execOp a.eval o).run P w = .ok (.value v) w) (hn : wpQuiet P ops C Q rest (a.put o.dst v)) : wpQuiet P ops C Q (o :: rest) a := by
  unfold wpQuiet
  rw [if_pos hw]
  exact ⟨v, fun w hC => by unfold Oper.quietAt; rw [h w hC]; exact ⟨rfl, rfl⟩, hn⟩
/-- A call that hands back one value and leaves a world of the class. -/
theorem q_call (hw : Region.wanted o (yielded ops a.tmps) = true) (f : FuncId) (args : Array Value) (h : ∀ w, C w → (execOp a.eval o).run P w = .ok (.enter f args) w) (hc : ∀ w, C w → Calls P f args w fun e w' => e = .returned v ∧ C w')
    (hn : wpQuiet P ops C Q rest (a.put o.dst v)) : wpQuiet P ops C Q (o :: rest) a := by
  unfold wpQuiet
  rw [if_pos hw]
  exact ⟨v, fun w hC => by unfold Oper.quietAt; rw [h w hC]; exact ⟨rfl, hc w hC⟩, hn⟩
/-- A long load. -/
theorem q_load (hw : Region.wanted o (yielded ops a.tmps) = true) (ty : TypeId) (x : Operand) (ho : o.op = .load ty x) (b off : Nat) (hx : a.eval x = .pointer (some ⟨b, off, none⟩)) (cs : List Value) (d : TypeDesc)
    (hc : ∀ w, C w → w.rangeAt b off cs) (hu : P.underlying ty = some d) (hd : d.isRow = true) (hi : (P.info? ty).map (·.size) = some cs.length) (hn : wpQuiet P ops C Q rest (a.put o.dst (.agg cs.toArray))) : wpQuiet P ops C Q (o :: rest) a :=
  q_take hw (fun w hC => by
    unfold execOp
    simp only [ho, hx, Instr.loadAt, Instr.sureAddr, Sem.run_bind, Sem.run_pure, Result.andThen_ok, run_loadVar_mid w b off ty cs d (hc w hC) hu hd hi]) hn
end

theorem sharedBits' (x y : Nat → Int) (hx : Bytes x) (hy : Bytes y) (w : World) :
    Calls Yba.prog 22 #[idV x, idV y] w fun e w' => e = .returned (.int .i64 (sh x y)) ∧ Below w.heap.size w w' :=
  (sharedBits x y hx hy w).mono fun e w' ⟨s, he, hf, hb⟩ => ⟨by rw [he, sh_eq hf], hb⟩
theorem ashared' (x y : Nat → Int) (w : World) :
    Calls Yba.prog 8 #[idV x, idV y] w fun e w' => e = .returned (.int .i64 (sh x y)) ∧ Below w.heap.size w w' :=
  (ashared x y w).mono fun e w' ⟨s, he, hf, hb⟩ => ⟨by rw [he, sh_eq hf], hb⟩

theorem info25l (x : Nat → Int) : (Yba.prog.info? 25).map (·.size) = some (ids x).length := by rw [ids_length]; exact info25

set_option maxRecDepth 100000 in
set_option maxHeartbeats 1600000 in
theorem bucket (T Bk n : Nat) (s x : Nat → Int) (hx : Bytes x) (hs : Bytes s) (w : World) (hS : IdAt w T 0 s) (hb : w.cell? ⟨T, 20, none⟩ = some (.slice (some ⟨Bk, 0, none⟩) n n)) (n0 : 1 ≤ n) (n1 : n ≤ 12) :
    Calls Yba.prog 14 #[.pointer (some ⟨T, 0, none⟩), idV x] w fun e w' => e = .returned (.int .i64 (min (sh x s) (n - 1) : Nat)) ∧ Below w.heap.size w w' := by
  have hT := hS.lt
  have r1 : (w.alloc (.cells (ids x).toArray 25)).rangeAt w.heap.size 0 (ids x) := (idAt_block (heap_alloc_new w _)).range
  have r2 : (w.alloc (.cells (ids x).toArray 25)).rangeAt T 0 (ids s) := World.rangeAt_alloc hS.range _
  have c20 : (w.alloc (.cells (ids x).toArray 25)).cell? ⟨T, 20, none⟩ = some (.slice (some ⟨Bk, 0, none⟩) n n) := by rw [(Below.refl w.heap.size w |>.alloc (Nat.le_refl _) _).cell (p := ⟨T, 20, none⟩) hT]; exact hb
  have z1 : (w.alloc (.cells (ids x).toArray 25)).heap.size = w.heap.size + 1 := by simp
  unfold idV
  go_enter Yba.func14, Yba.ntmps14
  go_wp2_with fail
  refine wp_region_quiet (C := fun w' => Below (w.heap.size + 1) (w.alloc (.cells (ids x).toArray 25)) w') (by kernel_rfl) (by kernel_rfl) (Below.refl _ _).drew ?_
  refine q_load rfl 25 _ rfl w.heap.size 0 rfl (ids x) _ (fun w' h => rangeAt_below h (by omega) r1) Yba.underlying25 rfl (info25l x) ?_
  simp only [Act.put, List.setIfInBounds_toArray, List.set_cons_zero, List.set_cons_succ]
  go_big_quiet_step ((intro _; rfl))
  go_big_quiet_step ((intro _; rfl))
  go_big_quiet_step ((intro _; rfl))
  refine q_load rfl 25 _ rfl T 0 rfl (ids s) _ (fun w' h => rangeAt_below h (by omega) r2) Yba.underlying25 rfl (info25l s) ?_
  simp only [Act.put, List.setIfInBounds_toArray, List.set_cons_zero, List.set_cons_succ]
  refine q_call rfl 22 #[idV x, idV s] (v := .int .i64 (sh x s)) (fun w' h => by unfold idV; go_simp) (fun w' h => (sharedBits' x s hx hs w').mono fun e w'' ⟨he, hb'⟩ => ⟨he, h.trans (hb'.mono (by have := h.size; omega))⟩) ?_
  simp only [Act.put, List.setIfInBounds_toArray, List.set_cons_zero, List.set_cons_succ]
  go_big_quiet_step ((intro _; rfl))
  go_big_quiet_step ((intro _; rfl))
  go_big_quiet_step ((intro _; rfl))
  refine q_take rfl (v := .slice (some ⟨Bk, 0, none⟩) n n) (fun w' h => ?_) ?_
  · have c := (h.cell (p := ⟨T, 20, none⟩) (by show T < _; omega)).trans c20
    go_simp
  simp only [Act.put, List.setIfInBounds_toArray, List.set_cons_zero, List.set_cons_succ]
  go_big_quiet_step ((intro _; rfl))
  go_big_quiet_step ((intro _; rfl))
  go_big_quiet_step ((intro _; rfl))
  go_big_quiet_step ((intro _; rfl))
  refine wpQuiet_nil ?_
  intro w2 h2
  have H2 : Hid (Below (w.heap.size + 1) (w.alloc (.cells (ids x).toArray 25)) w2) := h2
  clear h2
  go_wp2
  all_goals
    go_ret
    exact ⟨ret_int (by omega), ((Below.refl _ _).alloc (Nat.le_refl _) _).trans (H2.out.mono (by omega))⟩
end Go.Proofs.Ybulkcucc
