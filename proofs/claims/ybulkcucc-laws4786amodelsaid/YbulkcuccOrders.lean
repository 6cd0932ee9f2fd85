/-
  REGIONS THAT DRAW THEIR ORDER, STEP BY STEP: a condition S on the world is kept behind every operation BUT THE EXEMPT ONES; an exempt operation must wait for whatever is taken first. (For a statement that loads a cell and stores into that very cell at its end: the store waits for all the rest, so it need not keep S.) The library's own law for a condition that is kept behind every operation is Derived/OrdersHeld.lean's; its small laws are used here.
-/
import Derived.Test.YbulkcuccEntry
import Derived.Deep.RegionHeld3
namespace Go.Proofs.Ybulkcucc
open Go.RowKit

section
variable {P : Program} {ops : Array Oper} {Q : Exit → Act → World → Prop} {md : Region.Mode} {S : World → Prop} {ex : Nat → Bool}

/-- Whatever order is picked from here on; behind every operation that is not exempt S holds. -/
def wpAnyE (P : Program) (md : Region.Mode) (ops : Array Oper) (Q : Exit → Act → World → Prop) (ex : Nat → Bool) (S : World → Prop) : Nat → Array Bool → Act → World → Prop
  | 0, listed, a, w => Region.ready md ops listed = [] ∧ Q .normal a w
  | fuel + 1, listed, a, w =>
    (Region.ready md ops listed = [] → Q .normal a w) ∧
    ∀ i ∈ Region.ready md ops listed, wpOp P ops Q i (fun a' w' => (ex i = false → S w') ∧ wpAnyE P md ops Q ex S fuel (listed.setIfInBounds i true) a' w') a w

theorem wpAny_of_E : ∀ (fuel : Nat) (listed : Array Bool) (a : Act) (w : World), wpAnyE P md ops Q ex S fuel listed a w → wpAny P md ops Q fuel listed a w
  | 0, _, _, _, h => h
  | fuel + 1, _, _, _, h => ⟨h.1, fun i hi => wpOp_mono (fun a' w' g => wpAny_of_E fuel _ a' w' g.2) (h.2 i hi)⟩

/-- Every exempt operation waits for number i. -/
def waitsFor (md : Region.Mode) (ops : Array Oper) (ex : Nat → Bool) (i : Nat) : Bool :=
  (List.range ops.size).all fun j => !ex j || ((ops[j]?).map fun o => o.after.any fun e => Region.binds md e && e.on == i).getD false
theorem waitsFor_spec {i j : Nat} {oj : Oper} (h : waitsFor md ops ex i = true) (hj : ops[j]? = some oj) (hx : ex j = true) : ∃ e, e ∈ oj.after ∧ Region.binds md e = true ∧ e.on = i := by
  have hlt : j < ops.size := (Array.getElem?_eq_some_iff.1 hj).1
  have := List.all_eq_true.1 h j (List.mem_range.2 hlt)
  rw [hx, hj] at this
  simp only [Bool.not_true, Bool.false_or, Option.map_some, Option.getD_some] at this
  obtain ⟨e, he, hb⟩ := Array.any_eq_true'.1 this
  simp only [Bool.and_eq_true, beq_iff_eq] at hb
  exact ⟨e, he, hb.1, hb.2⟩

theorem E_first {i : Nat} {oi : Oper} {v : Value} (hi : ops[i]? = some oi) (hsel : ∀ (j : Nat) (o : Oper) cs b, ops[j]? = some o → o.op ≠ .select cs b)
    (hQ : ∀ c a w, Q (.panic c) (a.put oi.dst v) w → Q (.panic c) a w) (hex : waitsFor md ops ex i = true) :
    ∀ (fuel : Nat) (listed : Array Bool) (a : Act) (w : World),
      (∀ j oj, ops[j]? = some oj → j ≠ i → listed.getD j true = false → (∀ e ∈ oj.after, Region.binds md e = true → e.on ≠ i) → oi.apart ops oj = true) →
      i ∈ Region.ready md ops listed → YieldsIf P ops S oi v a → S w →
      wpAnyE P md ops Q ex S fuel (listed.setIfInBounds i true) (a.put oi.dst v) w → wpAnyE P md ops Q ex S (fuel + 1) listed a w := by
  intro fuel
  induction fuel with
  | zero =>
    intro listed a w _ hr hy hS H
    refine ⟨fun h => (by rw [h] at hr; cases hr), fun j hj => ?_⟩
    by_cases e : j = i
    · subst e; exact hy.wpOp hi hS ⟨fun _ => hS, H⟩
    · have g := ready_mono hj e
      rw [H.1] at g
      cases g
  | succ fuel ih =>
    intro listed a w hfree hr hy hS H
    refine ⟨fun h => (by rw [h] at hr; cases hr), fun j hj => ?_⟩
    by_cases e : j = i
    · subst e; exact hy.wpOp hi hS ⟨fun _ => hS, H⟩
    · obtain ⟨hun, oj, hoj, hall⟩ := mem_ready.1 hj
      have hnot : ∀ d ∈ oj.after, Region.binds md d = true → d.on ≠ i := fun d hd hb heq => by
        have g1 := hall d hd hb
        have g0 := (mem_ready.1 hr).1
        rw [heq] at g1
        rcases Nat.lt_or_ge i listed.size with hlt | hge
        · simp [hlt] at g0 g1; rw [g0] at g1; cases g1
        · simp [Array.getElem?_eq_none hge] at g1
      have hxj : ex j = false := by
        cases hc : ex j
        · rfl
        · obtain ⟨d, hd, hb, heq⟩ := waitsFor_spec hex hoj hc
          exact absurd heq (hnot d hd hb)
      have step := wpOp_putIf hoj (hfree j oj hoj e hun hnot) (fun cs b => hsel i oi cs b hi) (fun cs b => hsel j oj cs b hoj) hQ hy (H.2 j (ready_mono hj e))
      refine wpOp_mono (fun a' w' g => ?_) step
      have hS' := g.2.1 hxj
      refine ⟨fun _ => hS', ih (listed.setIfInBounds j true) a' w' ?_ (ready_mono hr (Ne.symm e)) g.1 hS' ?_⟩
      · intro k ok hk hki hkun hno
        refine hfree k ok hk hki ?_ hno
        by_cases ejk : j = k
        · subst ejk; exact hun
        · rw [getD_set_ne true ejk] at hkun; exact hkun
      · rw [Array.setIfInBounds_comm _ _ e]; exact g.2.2

/-- THE BEGINNING. -/
theorem E_region {id : Nat} {a : Act} {w : World} (ex : Nat → Bool) (S : World → Prop) (hm : P.follows .mixedOrders = true)
    (h : wpAnyE P .any ops (NoPanic Q) ex S ops.size (Array.replicate ops.size false) a w.drew) : (Code.region id ops true).wp P Q a w :=
  wp_region_noPanic (wp_region_any hm (wpAny_of_E _ _ _ _ h))
/-- Number i is taken first: in every world that meets S it yields v. -/
theorem E_take {i : Nat} {oi : Oper} {d : Option Tmp} {v : Value} {fuel : Nat} {listed : Array Bool} {a : Act} {w : World} (hi : ops[i]? = some oi) (hs : Region.noSelect ops = true) (hf : Region.free md ops listed i = true)
    (hr : (Region.ready md ops listed).contains i = true) (hex : waitsFor md ops ex i = true) (hw : Region.wanted oi (yielded ops a.tmps) = true) (hd : oi.dst = d)
    (hy : ∀ w, S w → (execOp a.eval oi).run P w = .ok (.value v) w) (hS : S w)
    (h : wpAnyE P md ops (NoPanic Q) ex S fuel (listed.setIfInBounds i true) (a.put d v) w) : wpAnyE P md ops (NoPanic Q) ex S (fuel + 1) listed a w :=
  E_first hi (Region.noSelect_spec hs) (fun _ _ _ g => g) hex fuel listed a w (Region.free_spec hi hf) (by simpa using hr) (.inl ⟨hw, hy⟩) hS (by rw [hd]; exact h)
/-- .. a long load. -/
theorem E_load {i : Nat} {oi : Oper} {d : Option Tmp} {fuel : Nat} {listed : Array Bool} {a : Act} {w : World} (hi : ops[i]? = some oi) (hs : Region.noSelect ops = true) (hf : Region.free md ops listed i = true)
    (hr : (Region.ready md ops listed).contains i = true) (hex : waitsFor md ops ex i = true) (hw : Region.wanted oi (yielded ops a.tmps) = true) (hd : oi.dst = d)
    (ty : TypeId) (x : Operand) (ho : oi.op = .load ty x) (b off : Nat) (hx : a.eval x = .pointer (some ⟨b, off, none⟩)) (cs : List Value) (t : TypeDesc)
    (hc : ∀ w, S w → w.rangeAt b off cs) (hu : P.underlying ty = some t) (ht : t.isRow = true) (hi' : (P.info? ty).map (·.size) = some cs.length) (hS : S w)
    (h : wpAnyE P md ops (NoPanic Q) ex S fuel (listed.setIfInBounds i true) (a.put d (.agg cs.toArray)) w) : wpAnyE P md ops (NoPanic Q) ex S (fuel + 1) listed a w :=
  E_take hi hs hf hr hex hw hd (fun w hC => by
    unfold execOp
    simp only [ho, hx, Instr.loadAt, Instr.sureAddr, Sem.run_bind, Sem.run_pure, Result.andThen_ok, run_loadVar_mid w b off ty cs t (hc w hC) hu ht hi']) hS h
/-- One operation alone may come up. -/
theorem E_one {i : Nat} {o : Oper} {fuel : Nat} {listed : Array Bool} {a : Act} {w : World} (hr : Region.ready md ops listed = [i]) (ho : ops[i]? = some o) (hw : Region.wanted o (yielded ops a.tmps) = true)
    (h : o.wp P a w (fun a' w' => (ex i = false → S w') ∧ wpAnyE P md ops Q ex S fuel (listed.setIfInBounds i true) a' w') Q) : wpAnyE P md ops Q ex S (fuel + 1) listed a w := by
  refine ⟨fun g => (by rw [hr] at g; cases g), fun j hj => ?_⟩
  rw [hr] at hj
  obtain rfl : j = i := by simpa using hj
  exact wpOp_step ho (fun K' hK => by rw [if_pos hw]; exact Oper.wp_mono hK h)
/-- One of two. -/
theorem E_two {i k : Nat} {o o' : Oper} {fuel : Nat} {listed : Array Bool} {a : Act} {w : World} (hr : Region.ready md ops listed = [i, k]) (ho : ops[i]? = some o) (ho' : ops[k]? = some o')
    (hw : Region.wanted o (yielded ops a.tmps) = true) (hw' : Region.wanted o' (yielded ops a.tmps) = true)
    (h : o.wp P a w (fun a' w' => (ex i = false → S w') ∧ wpAnyE P md ops Q ex S fuel (listed.setIfInBounds i true) a' w') Q)
    (h' : o'.wp P a w (fun a' w' => (ex k = false → S w') ∧ wpAnyE P md ops Q ex S fuel (listed.setIfInBounds k true) a' w') Q) : wpAnyE P md ops Q ex S (fuel + 1) listed a w := by
  refine ⟨fun g => (by rw [hr] at g; cases g), fun j hj => ?_⟩
  rw [hr] at hj
  rcases List.mem_cons.1 hj with e | e
  · subst e; exact wpOp_step ho (fun K' hK => by rw [if_pos hw]; exact Oper.wp_mono hK h)
  · obtain rfl : j = k := by simpa using e
    exact wpOp_step ho' (fun K' hK => by rw [if_pos hw']; exact Oper.wp_mono hK h')
/-- All have come up. -/
theorem E_done {fuel : Nat} {listed : Array Bool} {a : Act} {w : World} (hr : Region.ready md ops listed = []) (h : Q .normal a w) : wpAnyE P md ops Q ex S fuel listed a w := by
  cases fuel with
  | zero => exact ⟨hr, h⟩
  | succ f => exact ⟨fun _ => h, by rw [hr]; intro i hi; cases hi⟩
/-- An operation by its run. -/
theorem wp_value {o : Oper} {d : Option Tmp} {a : Act} {w w' : World} {v : Value} {K : Act → World → Prop} (hd : o.dst = d) (h : (execOp a.eval o).run P w = .ok (.value v) w') (hK : K (a.put d v) w') : o.wp P a w K Q := by
  subst hd; unfold Oper.wp; rw [h]; exact hK
theorem wp_none {o : Oper} {a : Act} {w w' : World} {K : Act → World → Prop} (hd : o.dst = none) (h : (execOp a.eval o).run P w = .ok .skip w') (hK : K a w') : o.wp P a w K Q := by
  unfold Oper.wp; rw [h]; show K (a.put o.dst undef) w'; rw [hd]; exact hK
/-- A struct literal. -/
theorem exec_build {o : Oper} {a : Act} {t : TypeId} {parts : Array (Nat × Operand)} {cs : List Value} (ho : o.op = .build t parts) (h : P.built t (parts.map fun (i, x) => (i, a.eval x)).toList = some cs.toArray) (w : World) :
    (execOp a.eval o).run P w = .ok (.value (.agg cs.toArray)) w := by
  unfold execOp
  simp only [ho, Sem.run_bind, run_build w t _ cs.toArray h, Result.andThen_ok, Sem.run_pure]
/-- A long store. -/
theorem wp_store {o : Oper} {a : Act} {w : World} {K : Act → World → Prop} (hd : o.dst = none) (ty : TypeId) (x y : Operand) (ho : o.op = .store ty x y)
    (b off : Nat) (cs : List Value) (hx : a.eval x = .pointer (some ⟨b, off, none⟩)) (hy : a.eval y = .agg cs.toArray)
    (ht : w.there b off cs.length) (hi : (P.info? ty).map (·.size) = some cs.length) (h1 : ∀ v ∈ cs, v.oneCell' = true)
    (h : K a (w.setCells b off cs)) : o.wp P a w K Q :=
  wp_store_mid ty x y ho b off cs.toArray hx hy (by simpa using ht) (by simpa using hi) (all_oneCell_toArray h1) (by rw [hd]; show K a _; simpa using h)
/-- A call by its contract. -/
theorem wp_call {o : Oper} {d : Option Tmp} {a : Act} {w : World} {f : FuncId} {args : Array Value} {K : Act → World → Prop} {R : Value → World → Prop} (hd : o.dst = d) (h : (execOp a.eval o).run P w = .ok (.enter f args) w)
    (hc : Calls P f args w fun e w' => ∃ v, e = .returned v ∧ R v w') (hK : ∀ v w', R v w' → K (a.put d v) w') : o.wp P a w K Q := by
  subst hd
  unfold Oper.wp; rw [h]
  refine Calls.mono hc fun e w' g => ?_
  obtain ⟨v, rfl, hR⟩ := g
  exact hK v w' hR
end
end Go.Proofs.Ybulkcucc
