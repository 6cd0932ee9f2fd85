/-
  CONTRACTS: zzs4764cdim (16), fromCivil (17), zzs4764cmodel (18).
-/
import Derived.Test.YbulkctqgSub
namespace Go.Proofs.Ybulkctqg.Model
open Go.RowKit Go.Proofs.Ybulkctqg
set_option linter.unusedVariables false

theorem dim_feb1 (y : Int) (h : y % 4 = 0 ∧ (y % 100 ≠ 0 ∨ y % 400 = 0)) : (29 : Int) = Cal.dim y 2 := Month.len_feb1 y h
theorem dim_feb0 (y : Int) (h : ¬ (y % 4 = 0 ∧ (y % 100 ≠ 0 ∨ y % 400 = 0))) : (28 : Int) = Cal.dim y 2 := Month.len_feb0 y h
theorem dim_30 (y m : Int) (h : m = 4 ∨ m = 6 ∨ m = 9 ∨ m = 11) : (30 : Int) = Cal.dim y m := Month.len_30 y (m - 1) (by omega)
theorem dim_31 (y m : Int) (h1 : ¬ m = 2) (h : ¬ (m = 4 ∨ m = 6 ∨ m = 9 ∨ m = 11)) : (31 : Int) = Cal.dim y m := Month.len_31 y (m - 1) (by omega) (by omega)

set_option maxHeartbeats 800000 in
theorem dim (y m : Int) (h0 : 1 ≤ y) (h1 : y ≤ 10000) (w : World) :
    Calls Yba.prog 16 #[.int .i64 y, .int .i64 m] w fun e w' => e = .returned (.int .i64 (Cal.dim y m)) ∧ w' = w := by
  by_cases m1 : m = 2
  · subst m1
    by_cases c4 : y % 4 = 0
    · by_cases c100 : y % 100 = 0
      · by_cases c400 : y % 400 = 0
        · have H := Month.hide (dim_feb1 y ⟨c4, .inr c400⟩)
          go_enter Yba.func16, Yba.ntmps16
          go_wp2
          go_ret
          exact ⟨Month.ret_int (Month.unhide H), rfl⟩
        · have H := Month.hide (dim_feb0 y (by omega))
          go_enter Yba.func16, Yba.ntmps16
          go_wp2
          go_ret
          exact ⟨Month.ret_int (Month.unhide H), rfl⟩
      · have H := Month.hide (dim_feb1 y ⟨c4, .inl c100⟩)
        go_enter Yba.func16, Yba.ntmps16
        go_wp2
        go_ret
        exact ⟨Month.ret_int (Month.unhide H), rfl⟩
    · have H := Month.hide (dim_feb0 y (by omega))
      go_enter Yba.func16, Yba.ntmps16
      go_wp2
      go_ret
      exact ⟨Month.ret_int (Month.unhide H), rfl⟩
  · by_cases c : m = 4 ∨ m = 6 ∨ m = 9 ∨ m = 11
    · have H := Month.hide (dim_30 y m c)
      rcases c with rfl | rfl | rfl | rfl
      all_goals
        go_enter Yba.func16, Yba.ntmps16
        go_wp2
        go_ret
        exact ⟨Month.ret_int (Month.unhide H), rfl⟩
    · have H := Month.hide (dim_31 y m m1 c)
      have n3 : ¬ m = 4 := by omega
      have n5 : ¬ m = 6 := by omega
      have n8 : ¬ m = 9 := by omega
      have n10 : ¬ m = 11 := by omega
      clear c
      go_enter Yba.func16, Yba.ntmps16
      go_wp2
      go_ret
      exact ⟨Month.ret_int (Month.unhide H), rfl⟩

set_option maxHeartbeats 400000 in
theorem fromCivil (y m d : Int) (a : Cal.Ok y m d) (w : World) :
    Calls Yba.prog 17 #[.int .i64 y, .int .i64 m, .int .i64 d] w fun e w' => e = .returned (.agg #[.int .i32 (Cal.dayOf y m d)]) ∧ w' = w.alloc (.cells #[.int .i32 (Cal.dayOf y m d)] 40) := by
  have bd := Cal.dayOf_bd a
  have H : Hid (Cal.ms (12 * (y - 1) + (m - 1)) + d - 1 = Cal.dayOf y m d) := rfl
  have dd := Cal.dim_bd y m
  obtain ⟨a1, a2, a3, a4, a5, a6⟩ := a
  have b := Cal.ms_bd (12 * (y - 1) + (m - 1)) (by omega) (by omega)
  have b' : 0 ≤ Cal.ms (12 * (y - 1) + (m - 1)) + d - 1 ∧ Cal.ms (12 * (y - 1) + (m - 1)) + d - 1 ≤ 3652058 := by rw [H.out]; exact bd
  go_enter Yba.func17, Yba.ntmps17
  go_wp2_with fail
  refine (Civil.monthsBefore _ _ (by omega) (by omega) (by omega) (by omega) _).mono ?_
  rintro e w' ⟨rfl, rfl⟩
  go_wp2_with fail
  refine (Month.monthStart _ (by omega) (by omega) _).mono ?_
  rintro e w' ⟨rfl, rfl⟩
  go_wp2_with fail
  exact bodyPost_ret (v := .agg #[.int .i32 (Cal.dayOf y m d)]) (by simp [results, Yba.results17, go_sem]; exact H.out) rfl ⟨rfl, rfl⟩

set_option maxHeartbeats 800000 in
theorem model (y1 m1 d1 y2 m2 d2 : Int) (a : Cal.Ok y1 m1 d1) (b : Cal.Ok y2 m2 d2) (w : World) :
    Calls Yba.prog 18 #[.int .i64 y1, .int .i64 m1, .int .i64 d1, .int .i64 y2, .int .i64 m2, .int .i64 d2] w fun e w' => e = .returned (.int .i64 (Cal.model y1 m1 d1 y2 m2 d2)) ∧ w' = w := by
  obtain ⟨a1, a2, a3, a4, a5, a6⟩ := a
  obtain ⟨b1, b2, b3, b4, b5, b6⟩ := b
  have c := Cal.dim_bd y1 m1
  have d := Cal.dim_bd y2 m2
  by_cases p : d1 < d2
  · by_cases q : m1 < m2 + 1
    · have H : Hid ((y1 - (y2 + 1)) * 10000 + (m1 - (m2 + 1) + 12) * 100 + (d1 - d2 + Cal.dim y2 m2) = Cal.model y1 m1 d1 y2 m2 d2) := Cal.model_11 p q
      go_enter Yba.func18, Yba.ntmps18
      go_wp2_with fail
      refine (dim _ _ (by omega) (by omega) _).mono ?_
      rintro e w' ⟨rfl, rfl⟩
      go_wp2_with fail
      go_ret
      exact ⟨Month.ret_int (by have := H.out; omega), rfl⟩
    · have H : Hid ((y1 - y2) * 10000 + (m1 - (m2 + 1)) * 100 + (d1 - d2 + Cal.dim y2 m2) = Cal.model y1 m1 d1 y2 m2 d2) := Cal.model_10 p q
      go_enter Yba.func18, Yba.ntmps18
      go_wp2_with fail
      refine (dim _ _ (by omega) (by omega) _).mono ?_
      rintro e w' ⟨rfl, rfl⟩
      go_wp2_with fail
      go_ret
      exact ⟨Month.ret_int (by have := H.out; omega), rfl⟩
  · by_cases q : m1 < m2
    · have H : Hid ((y1 - (y2 + 1)) * 10000 + (m1 - m2 + 12) * 100 + (d1 - d2) = Cal.model y1 m1 d1 y2 m2 d2) := Cal.model_01 p q
      go_enter Yba.func18, Yba.ntmps18
      go_wp2_with fail
      go_ret
      exact ⟨Month.ret_int (by have := H.out; omega), rfl⟩
    · have H : Hid ((y1 - y2) * 10000 + (m1 - m2) * 100 + (d1 - d2) = Cal.model y1 m1 d1 y2 m2 d2) := Cal.model_00 p q
      go_enter Yba.func18, Yba.ntmps18
      go_wp2_with fail
      go_ret
      exact ⟨Month.ret_int (by have := H.out; omega), rfl⟩

end Go.Proofs.Ybulkctqg.Model
