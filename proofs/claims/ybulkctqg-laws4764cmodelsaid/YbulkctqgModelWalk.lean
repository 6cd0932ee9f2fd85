/-
  THE WALK OF 'LawS4764CModel' (7), out of the contracts: two cases by the order of the two dates.
-/
import Derived.Test.YbulkctqgModel
namespace Go.Proofs.Ybulkctqg.ModelWalk
open Go.RowKit Go.Proofs.Ybulkctqg
set_option linter.unusedVariables false

theorem sub_of {y1 m1 d1 y2 m2 d2 : Int} (a : Cal.Ok y1 m1 d1) (b : Cal.Ok y2 m2 d2) : Cal.sub (Cal.dayOf y1 m1 d1) (Cal.dayOf y2 m2 d2) = Cal.model y1 m1 d1 y2 m2 d2 := by
  have p := Cal.civ_of a
  have q := Cal.civ_of b
  unfold Cal.sub
  rw [p.1, p.2.1, p.2.2, q.1, q.2.1, q.2.2]

set_option maxHeartbeats 800000 in
theorem lt (a0 a1 a2 a3 a4 a5 y1 m1 d1 y2 m2 d2 : Int) (h0 : 0 ≤ a0) (h1 : 0 ≤ a1) (h2 : 0 ≤ a2) (h3 : 0 ≤ a3) (h4 : 0 ≤ a4) (h5 : 0 ≤ a5)
    (l0 : a0 ≤ 65535) (l1 : a1 ≤ 255) (l2 : a2 ≤ 255) (l3 : a3 ≤ 65535) (l4 : a4 ≤ 255) (l5 : a5 ≤ 255)
    (e1 : 1 + a0 % 9999 = y1) (e2 : 1 + a1 % 12 = m1) (e3 : 1 + a2 % Cal.dim y1 m1 = d1) (e4 : 1 + a3 % 9999 = y2) (e5 : 1 + a4 % 12 = m2) (e6 : 1 + a5 % Cal.dim y2 m2 = d2)
    (ok1 : Cal.Ok y1 m1 d1) (ok2 : Cal.Ok y2 m2 d2) (h : y1 * 10000 + m1 * 100 + d1 < y2 * 10000 + m2 * 100 + d2) (w : World) :
    Calls Yba.prog 7 #[.int .u16 a0, .int .u8 a1, .int .u8 a2, .int .u16 a3, .int .u8 a4, .int .u8 a5] w fun e w' => e = .returned (.bool true) ∧ Grown w w' := by
  have c1 := Cal.dim_bd y1 m1
  have c2 := Cal.dim_bd y2 m2
  have f1 := Cal.dayOf_bd ok1
  have f2 := Cal.dayOf_bd ok2
  have hl := (Cal.key_lt ok1 ok2).2 h
  have hs := Month.hide (sub_of ok2 ok1)
  have hb := Sub.sub_bd (Cal.dayOf y2 m2 d2) (Cal.dayOf y1 m1 d1) f2.1 f2.2 f1.1 f1.2 (by omega)
  rw [Month.unhide hs] at hb
  have K1 := Month.hide ok1
  have K2 := Month.hide ok2
  obtain ⟨p1, p2, p3, p4, p5, p6⟩ := ok1
  obtain ⟨q1, q2, q3, q4, q5, q6⟩ := ok2
  have n1 : ¬ Cal.dim y1 m1 = 0 := by omega
  have n2 : ¬ Cal.dim y2 m2 = 0 := by omega
  go_enter Yba.func7, Yba.ntmps7
  go_wp2_with fail
  refine (Model.dim _ _ (by omega) (by omega) _).mono ?_
  rintro e w' ⟨rfl, rfl⟩
  go_wp2_with fail
  refine (Model.dim _ _ (by omega) (by omega) _).mono ?_
  rintro e w' ⟨rfl, rfl⟩
  go_wp2_with fail
  refine (Model.fromCivil _ _ _ (Month.unhide K1) _).mono ?_
  rintro e w' ⟨rfl, rfl⟩
  go_wp2_with fail
  refine (Model.fromCivil _ _ _ (Month.unhide K2) _).mono ?_
  rintro e w' ⟨rfl, rfl⟩
  go_wp2_with fail
  refine (Model.model _ _ _ _ _ _ (Month.unhide K2) (Month.unhide K1) _).mono ?_
  rintro e w' ⟨rfl, rfl⟩
  go_wp2_with fail
  refine (Sub.sub_lt _ _ f1.1 f1.2 f2.1 f2.2 hl _).mono ?_
  rintro e w' ⟨rfl, rfl⟩
  rw [Month.unhide hs]
  go_wp2_with fail
  go_ret
  refine ⟨rfl, ?_⟩
  iterate 10 apply Grown.alloc
  exact Grown.refl _

set_option maxHeartbeats 800000 in
theorem ge (a0 a1 a2 a3 a4 a5 y1 m1 d1 y2 m2 d2 : Int) (h0 : 0 ≤ a0) (h1 : 0 ≤ a1) (h2 : 0 ≤ a2) (h3 : 0 ≤ a3) (h4 : 0 ≤ a4) (h5 : 0 ≤ a5)
    (l0 : a0 ≤ 65535) (l1 : a1 ≤ 255) (l2 : a2 ≤ 255) (l3 : a3 ≤ 65535) (l4 : a4 ≤ 255) (l5 : a5 ≤ 255)
    (e1 : 1 + a0 % 9999 = y1) (e2 : 1 + a1 % 12 = m1) (e3 : 1 + a2 % Cal.dim y1 m1 = d1) (e4 : 1 + a3 % 9999 = y2) (e5 : 1 + a4 % 12 = m2) (e6 : 1 + a5 % Cal.dim y2 m2 = d2)
    (ok1 : Cal.Ok y1 m1 d1) (ok2 : Cal.Ok y2 m2 d2) (h : ¬ y1 * 10000 + m1 * 100 + d1 < y2 * 10000 + m2 * 100 + d2) (w : World) :
    Calls Yba.prog 7 #[.int .u16 a0, .int .u8 a1, .int .u8 a2, .int .u16 a3, .int .u8 a4, .int .u8 a5] w fun e w' => e = .returned (.bool true) ∧ Grown w w' := by
  have c1 := Cal.dim_bd y1 m1
  have c2 := Cal.dim_bd y2 m2
  have f1 := Cal.dayOf_bd ok1
  have f2 := Cal.dayOf_bd ok2
  have hl : ¬ Cal.dayOf y1 m1 d1 < Cal.dayOf y2 m2 d2 := fun g => h ((Cal.key_lt ok1 ok2).1 g)
  have hs := Month.hide (sub_of ok1 ok2)
  have K1 := Month.hide ok1
  have K2 := Month.hide ok2
  obtain ⟨p1, p2, p3, p4, p5, p6⟩ := ok1
  obtain ⟨q1, q2, q3, q4, q5, q6⟩ := ok2
  have n1 : ¬ Cal.dim y1 m1 = 0 := by omega
  have n2 : ¬ Cal.dim y2 m2 = 0 := by omega
  go_enter Yba.func7, Yba.ntmps7
  go_wp2_with fail
  refine (Model.dim _ _ (by omega) (by omega) _).mono ?_
  rintro e w' ⟨rfl, rfl⟩
  go_wp2_with fail
  refine (Model.dim _ _ (by omega) (by omega) _).mono ?_
  rintro e w' ⟨rfl, rfl⟩
  go_wp2_with fail
  refine (Model.fromCivil _ _ _ (Month.unhide K1) _).mono ?_
  rintro e w' ⟨rfl, rfl⟩
  go_wp2_with fail
  refine (Model.fromCivil _ _ _ (Month.unhide K2) _).mono ?_
  rintro e w' ⟨rfl, rfl⟩
  go_wp2_with fail
  refine (Model.model _ _ _ _ _ _ (Month.unhide K1) (Month.unhide K2) _).mono ?_
  rintro e w' ⟨rfl, rfl⟩
  go_wp2_with fail
  refine (Sub.sub_ge _ _ f1.1 f1.2 f2.1 f2.2 (by omega) _).mono ?_
  rintro e w' ⟨rfl, rfl⟩
  rw [Month.unhide hs]
  go_wp2_with fail
  go_ret
  refine ⟨rfl, ?_⟩
  iterate 10 apply Grown.alloc
  exact Grown.refl _

theorem okOf (a b c : Int) : Cal.Ok (1 + a % 9999) (1 + b % 12) (1 + c % Cal.dim (1 + a % 9999) (1 + b % 12)) := by
  have d := Cal.dim_bd (1 + a % 9999) (1 + b % 12)
  have e := Int.emod_nonneg c (show Cal.dim (1 + a % 9999) (1 + b % 12) ≠ 0 by omega)
  have f := Int.emod_lt_of_pos c (show 0 < Cal.dim (1 + a % 9999) (1 + b % 12) by omega)
  exact ⟨by omega, by omega, by omega, by omega, by omega, by omega⟩

theorem walk (a0 a1 a2 a3 a4 a5 : Int) (h0 : 0 ≤ a0 ∧ a0 ≤ 65535) (h1 : 0 ≤ a1 ∧ a1 ≤ 255) (h2 : 0 ≤ a2 ∧ a2 ≤ 255) (h3 : 0 ≤ a3 ∧ a3 ≤ 65535) (h4 : 0 ≤ a4 ∧ a4 ≤ 255) (h5 : 0 ≤ a5 ∧ a5 ≤ 255) (w : World) :
    Calls Yba.prog 7 #[.int .u16 a0, .int .u8 a1, .int .u8 a2, .int .u16 a3, .int .u8 a4, .int .u8 a5] w fun e w' => e = .returned (.bool true) ∧ Grown w w' := by
  have ok1 := okOf a0 a1 a2
  have ok2 := okOf a3 a4 a5
  generalize e1 : 1 + a0 % 9999 = y1 at *
  generalize e2 : 1 + a1 % 12 = m1 at *
  generalize e3 : 1 + a2 % Cal.dim y1 m1 = d1 at *
  generalize e4 : 1 + a3 % 9999 = y2 at *
  generalize e5 : 1 + a4 % 12 = m2 at *
  generalize e6 : 1 + a5 % Cal.dim y2 m2 = d2 at *
  by_cases h : y1 * 10000 + m1 * 100 + d1 < y2 * 10000 + m2 * 100 + d2
  · exact lt a0 a1 a2 a3 a4 a5 y1 m1 d1 y2 m2 d2 h0.1 h1.1 h2.1 h3.1 h4.1 h5.1 h0.2 h1.2 h2.2 h3.2 h4.2 h5.2 e1 e2 e3 e4 e5 e6 ok1 ok2 h w
  · exact ge a0 a1 a2 a3 a4 a5 y1 m1 d1 y2 m2 d2 h0.1 h1.1 h2.1 h3.1 h4.1 h5.1 h0.2 h1.2 h2.2 h3.2 h4.2 h5.2 e1 e2 e3 e4 e5 e6 ok1 ok2 h w
end Go.Proofs.Ybulkctqg.ModelWalk
