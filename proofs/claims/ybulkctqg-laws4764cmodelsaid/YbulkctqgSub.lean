/-
  CONTRACTS: DaysInMonth (26), sub (24), Sub (19), fromCivil (17), zzs4764cdim (16), zzs4764cmodel (18).
-/
import Derived.Test.YbulkctqgCivil
import Derived.Test.YbulkctqgCal3
namespace Go.Proofs.Ybulkctqg.Sub
open Go.RowKit Go.Proofs.Ybulkctqg
open Go.Proofs.Ybulkctqg.Civil (B)
set_option linter.unusedVariables false

set_option maxHeartbeats 400000 in
theorem daysInMonth (y m : Int) (h0 : 1 ≤ y) (h1 : y ≤ 9999) (g0 : 1 ≤ m) (g1 : m ≤ 12) (w : World) :
    Calls Yba.prog 26 #[.int .i64 y, .int .i64 m] w fun e w' => e = .returned (.int .i64 (Cal.dim y m)) ∧ w' = w := by
  have n1 : ¬ m < 1 := by omega
  have n2 : ¬ 12 < m := by omega
  by_cases c : y % 400 < 1
  · have H := Month.hide (Cal.dim_by y (y % 400 + 400) m (by omega) g0 g1)
    have b1 := Cal.ms_bd (12 * (y % 400 + 400 - 1) + (m - 1)) (by omega) (by omega)
    have b2 := Cal.ms_bd (12 * (y % 400 + 400 - 1) + (m - 1) + 1) (by omega) (by omega)
    go_enter Yba.func26, Yba.ntmps26
    go_wp2_with fail
    refine (Civil.monthsBefore _ _ (by omega) (by omega) (by omega) (by omega) _).mono ?_
    rintro e w' ⟨rfl, rfl⟩
    go_wp2_with fail
    refine (Month.monthStart _ (by omega) (by omega) _).mono ?_
    rintro e w' ⟨rfl, rfl⟩
    go_wp2_with fail
    refine (Month.monthStart _ (by omega) (by omega) _).mono ?_
    rintro e w' ⟨rfl, rfl⟩
    go_wp2_with fail
    go_ret
    exact ⟨Month.ret_int (Month.unhide H), rfl⟩
  · have H := Month.hide (Cal.dim_by y (y % 400) m (by omega) g0 g1)
    have b1 := Cal.ms_bd (12 * (y % 400 - 1) + (m - 1)) (by omega) (by omega)
    have b2 := Cal.ms_bd (12 * (y % 400 - 1) + (m - 1) + 1) (by omega) (by omega)
    go_enter Yba.func26, Yba.ntmps26
    go_wp2_with fail
    refine (Civil.monthsBefore _ _ (by omega) (by omega) (by omega) (by omega) _).mono ?_
    rintro e w' ⟨rfl, rfl⟩
    go_wp2_with fail
    refine (Month.monthStart _ (by omega) (by omega) _).mono ?_
    rintro e w' ⟨rfl, rfl⟩
    go_wp2_with fail
    refine (Month.monthStart _ (by omega) (by omega) _).mono ?_
    rintro e w' ⟨rfl, rfl⟩
    go_wp2_with fail
    go_ret
    exact ⟨Month.ret_int (Month.unhide H), rfl⟩

theorem civil (n : Int) (h0 : 0 ≤ n) (h1 : n ≤ 3652058) (w : World) :
    Calls Yba.prog 25 #[.agg #[.int .i32 n]] w fun e w' => e = .returned (.tuple #[.int .i64 (Cal.cy n), .int .i64 (Cal.cm n), .int .i64 (Cal.cd n)]) ∧ w' = w.alloc (.cells #[.int .i32 n] 40) := Civil.civil n h0 h1 w

set_option maxHeartbeats 800000 in
theorem sub_lower (n k : Int) (n0 : 0 ≤ n) (n1 : n ≤ 3652058) (k0 : 0 ≤ k) (k1 : k ≤ 3652058) (w : World) :
    Calls Yba.prog 24 #[.agg #[.int .i32 n], .agg #[.int .i32 k], .int .i64 0] w fun e w' => e = .returned (.int .i64 (Cal.sub n k)) ∧ w' = (((w.alloc (.cells #[.int .i32 n] 40)).alloc (.cells #[.int .i32 k] 40)).alloc (.cells #[.int .i32 n] 40)).alloc (.cells #[.int .i32 k] 40) := by
  obtain ⟨a1, a2, a3, a4, a5, a6⟩ := Cal.civ_ok n n0 n1
  obtain ⟨b1, b2, b3, b4, b5, b6⟩ := Cal.civ_ok k k0 k1
  have c := Cal.dim_bd (Cal.cy n) (Cal.cm n)
  have d := Cal.dim_bd (Cal.cy k) (Cal.cm k)
  by_cases p : Cal.cd n < Cal.cd k
  · by_cases q : Cal.cm n < Cal.cm k + 1
    · have H : Hid ((Cal.cy n - (Cal.cy k + 1)) * 10000 + (Cal.cm n - (Cal.cm k + 1) + 12) * 100 + (Cal.cd n - Cal.cd k + Cal.dim (Cal.cy k) (Cal.cm k)) = Cal.sub n k) := Cal.model_11 p q
      go_enter Yba.func24, Yba.ntmps24
      go_wp2_with fail
      refine (civil n n0 n1 _).mono ?_
      rintro e w' ⟨rfl, rfl⟩
      go_wp2_with fail
      refine (civil k k0 k1 _).mono ?_
      rintro e w' ⟨rfl, rfl⟩
      go_wp2_with fail
      refine (daysInMonth _ _ (by omega) (by omega) (by omega) (by omega) _).mono ?_
      rintro e w' ⟨rfl, rfl⟩
      go_wp2_with fail
      go_ret
      exact ⟨Month.ret_int (by have := H.out; omega), rfl⟩
    · have H : Hid ((Cal.cy n - Cal.cy k) * 10000 + (Cal.cm n - (Cal.cm k + 1)) * 100 + (Cal.cd n - Cal.cd k + Cal.dim (Cal.cy k) (Cal.cm k)) = Cal.sub n k) := Cal.model_10 p q
      go_enter Yba.func24, Yba.ntmps24
      go_wp2_with fail
      refine (civil n n0 n1 _).mono ?_
      rintro e w' ⟨rfl, rfl⟩
      go_wp2_with fail
      refine (civil k k0 k1 _).mono ?_
      rintro e w' ⟨rfl, rfl⟩
      go_wp2_with fail
      refine (daysInMonth _ _ (by omega) (by omega) (by omega) (by omega) _).mono ?_
      rintro e w' ⟨rfl, rfl⟩
      go_wp2_with fail
      go_ret
      exact ⟨Month.ret_int (by have := H.out; omega), rfl⟩
  · by_cases q : Cal.cm n < Cal.cm k
    · have H : Hid ((Cal.cy n - (Cal.cy k + 1)) * 10000 + (Cal.cm n - Cal.cm k + 12) * 100 + (Cal.cd n - Cal.cd k) = Cal.sub n k) := Cal.model_01 p q
      go_enter Yba.func24, Yba.ntmps24
      go_wp2_with fail
      refine (civil n n0 n1 _).mono ?_
      rintro e w' ⟨rfl, rfl⟩
      go_wp2_with fail
      refine (civil k k0 k1 _).mono ?_
      rintro e w' ⟨rfl, rfl⟩
      go_wp2_with fail
      go_ret
      exact ⟨Month.ret_int (by have := H.out; omega), rfl⟩
    · have H : Hid ((Cal.cy n - Cal.cy k) * 10000 + (Cal.cm n - Cal.cm k) * 100 + (Cal.cd n - Cal.cd k) = Cal.sub n k) := Cal.model_00 p q
      go_enter Yba.func24, Yba.ntmps24
      go_wp2_with fail
      refine (civil n n0 n1 _).mono ?_
      rintro e w' ⟨rfl, rfl⟩
      go_wp2_with fail
      refine (civil k k0 k1 _).mono ?_
      rintro e w' ⟨rfl, rfl⟩
      go_wp2_with fail
      go_ret
      exact ⟨Month.ret_int (by have := H.out; omega), rfl⟩

theorem sub_bd (n k : Int) (n0 : 0 ≤ n) (n1 : n ≤ 3652058) (k0 : 0 ≤ k) (k1 : k ≤ 3652058) (h : k ≤ n) : 0 ≤ Cal.sub n k ∧ Cal.sub n k ≤ 99981130 := by
  obtain ⟨Y, M, D, e, h1, h2, h3, h4, h5, h6, _⟩ := Cal.sub_shape n k n0 n1 k0 k1 h
  omega

set_option maxHeartbeats 400000 in
theorem sub_lt (n k : Int) (n0 : 0 ≤ n) (n1 : n ≤ 3652058) (k0 : 0 ≤ k) (k1 : k ≤ 3652058) (h : n < k) (w : World) :
    Calls Yba.prog 19 #[.agg #[.int .i32 n], .agg #[.int .i32 k]] w fun e w' => e = .returned (.int .i64 (-Cal.sub k n)) ∧ w' = (((((w.alloc (.cells #[.int .i32 n] 40)).alloc (.cells #[.int .i32 k] 40)).alloc (.cells #[.int .i32 k] 40)).alloc (.cells #[.int .i32 n] 40)).alloc (.cells #[.int .i32 k] 40)).alloc (.cells #[.int .i32 n] 40) := by
  have b := sub_bd k n k0 k1 n0 n1 (by omega)
  go_enter Yba.func19, Yba.ntmps19
  go_wp2_with fail
  refine (sub_lower k n k0 k1 n0 n1 _).mono ?_
  rintro e w' ⟨rfl, rfl⟩
  go_wp2_with fail
  go_ret
  exact ⟨rfl, rfl⟩

set_option maxHeartbeats 400000 in
theorem sub_ge (n k : Int) (n0 : 0 ≤ n) (n1 : n ≤ 3652058) (k0 : 0 ≤ k) (k1 : k ≤ 3652058) (h : ¬ n < k) (w : World) :
    Calls Yba.prog 19 #[.agg #[.int .i32 n], .agg #[.int .i32 k]] w fun e w' => e = .returned (.int .i64 (Cal.sub n k)) ∧ w' = (((((w.alloc (.cells #[.int .i32 n] 40)).alloc (.cells #[.int .i32 k] 40)).alloc (.cells #[.int .i32 n] 40)).alloc (.cells #[.int .i32 k] 40)).alloc (.cells #[.int .i32 n] 40)).alloc (.cells #[.int .i32 k] 40) := by
  go_enter Yba.func19, Yba.ntmps19
  go_wp2_with fail
  refine (sub_lower n k n0 n1 k0 k1 _).mono ?_
  rintro e w' ⟨rfl, rfl⟩
  go_wp2_with fail
  go_ret
  exact ⟨rfl, rfl⟩

end Go.Proofs.Ybulkctqg.Sub
