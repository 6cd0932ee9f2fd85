/-
  THE WALKS OF 'LawS4764AStep' (4) AND 'LawS4764AExact' (3) over the contracts of monthStart and zzs4764alen.
-/
import Derived.Test.YbulkctqgMonth
import Derived.LoopTactic
namespace Go.Proofs.Ybulkctqg.AWalks
open Go.RowKit Go.Proofs.Ybulkctqg
set_option linter.unusedVariables false

theorem ret_bool {b : Bool} (h : b = true) : Ending.returned (.bool b) = .returned (.bool true) := by rw [h]

theorem step_true (m : Int) : (Cal.ms (m + 1) - Cal.ms m == Cal.len0 (m / 12 + 1) (m % 12)) = true := by
  have := Cal.ms_next m
  unfold Cal.mlen at this
  simp; omega

set_option maxHeartbeats 400000 in
theorem step (a0 : Int) (h0 : 0 ≤ a0) (h1 : a0 ≤ 4294967295) (w : World) :
    Calls Yba.prog 4 #[.int .u32 a0] w fun e w' => e = .returned (.bool true) ∧ w' = w := by
  have b0 : 0 ≤ a0 % 119988 := by omega
  have b1 : a0 % 119988 ≤ 119987 := by omega
  have c0 := Cal.ms_bd (a0 % 119988) b0 (by omega)
  have c1 := Cal.ms_bd (a0 % 119988 + 1) (by omega) (by omega)
  have hs := step_true (a0 % 119988)
  rw [Int.emod_emod_of_dvd a0 (show (12 : Int) ∣ 119988 by decide)] at hs
  go_enter Yba.func4, Yba.ntmps4
  go_wp2_with fail
  refine (Month.monthStart 0 (by omega) (by omega) _).mono ?_
  rintro e w' ⟨rfl, rfl⟩
  rw [Cal.ms_zero]
  go_wp2_with fail
  refine (Month.monthStart _ (by omega) (by omega) _).mono ?_
  rintro e w' ⟨rfl, rfl⟩
  go_wp2_with fail
  refine (Month.monthStart _ (by omega) (by omega) _).mono ?_
  rintro e w' ⟨rfl, rfl⟩
  go_wp2_with fail
  refine (Month.len0 _ _ (by omega) (by omega) _).mono ?_
  rintro e w' ⟨rfl, rfl⟩
  go_wp2_with fail
  go_ret
  exact ⟨rfl, rfl⟩

theorem exact_true (m : Int) (h0 : 0 ≤ m) (h1 : m ≤ 119988) :
    (Cal.ms m == 365 * (m / 12) + m / 12 / 4 - m / 12 / 100 + m / 12 / 400 + Cal.cum (m / 12 + 1) (m % 12).toNat) = true := by
  have a := Cal.ms_cum (m / 12 + 1) (m % 12).toNat (by omega)
  have b := Cal.ms_year (m / 12)
  rw [show 12 * (m / 12 + 1 - 1) + ((m % 12).toNat : Int) = m by omega, show 12 * (m / 12 + 1 - 1) = 12 * (m / 12) by omega] at a
  simp; omega

theorem cum_snoc (y : Int) (k : Nat) : Cal.cum y (k + 1) = Cal.cum y k + Cal.len0 y k := rfl

set_option maxHeartbeats 400000 in
theorem exactly (a0 : Int) (h0 : 0 ≤ a0) (h1 : a0 ≤ 4294967295) (w : World) :
    Calls Yba.prog 3 #[.int .u32 a0] w fun e w' => e = .returned (.bool true) ∧ w' = w := by
  have b0 : 0 ≤ a0 % 119989 := by omega
  have b1 : a0 % 119989 ≤ 119988 := by omega
  have hs := exact_true (a0 % 119989) b0 b1
  go_enter Yba.func3, Yba.ntmps3
  go_wp2_with fail
  go_loop [7, 8] (fun t i => ∃ k : Nat, (k : Int) ≤ a0 % 119989 % 12 ∧ i = .int .i64 k ∧ t = .int .i64 (365 * (a0 % 119989 / 12) + a0 % 119989 / 12 / 4 - a0 % 119989 / 12 / 100 + a0 % 119989 / 12 / 400 + Cal.cum (a0 % 119989 / 12 + 1) k)) (fun _ i => 12 - (intOf i).toNat)
  case atStart => exact ⟨0, by omega, rfl, congrArg (Value.int .i64) (by simp [Cal.cum])⟩
  case round =>
    obtain ⟨k, hk, rfl, rfl⟩ := hrel
    have hc := Cal.cum_bd (a0 % 119989 / 12 + 1) k
    have hl := Cal.len0_bd (a0 % 119989 / 12 + 1) k
    have hn := Month.hide (cum_snoc (a0 % 119989 / 12 + 1) k)
    by_cases hlt : (k : Int) < a0 % 119989 % 12
    · go_wp2_with (go_at_call 9; refine (Month.len0 _ _ (by omega) (by omega) _).mono ?_; rintro e w' ⟨rfl, rfl⟩)
      go_round
      case rel => exact ⟨k + 1, by omega, by go_num, congrArg (Value.int .i64) (by rw [Month.unhide hn]; omega)⟩
      case measure => simp [intOf]; omega
    · have hke : (a0 % 119989 % 12).toNat = k := by omega
      rw [hke] at hs
      clear hke
      go_wp2_with fail
      refine (Month.monthStart _ (by omega) (by omega) _).mono ?_
      rintro e w' ⟨rfl, rfl⟩
      go_wp2_with fail
      go_ret
      exact ⟨rfl, rfl⟩

end Go.Proofs.Ybulkctqg.AWalks
