/-
  CONTRACTS: zzs4764alen (9, with zzs4764aleap in place), monthStart (10, with daysBeforeMarch and daysFromMarch in place).
-/
import Derived.Test.YbulkctqgRows
import Derived.Test.YbulkctqgCal
import Derived.WalkKit
import Derived.WalkSpells
namespace Go.Proofs.Ybulkctqg.Month
open Go.RowKit Go.Proofs.Ybulkctqg
set_option linter.unusedVariables false

theorem hide {p : Prop} (h : p) : Hid p := h
theorem unhide {p : Prop} (h : Hid p) : p := h
theorem ret_int {k : IntKind} {a b : Int} (h : a = b) : Ending.returned (.int k a) = .returned (.int k b) := by rw [h]

set_option maxHeartbeats 400000 in
theorem monthStart (m : Int) (h0 : 0 ≤ m) (h1 : m ≤ 119988) (w : World) :
    Calls Yba.prog 10 #[.int .i64 m] w fun e w' => e = .returned (.int .i64 (Cal.ms m)) ∧ w' = w := by
  go_enter Yba.func10, Yba.ntmps10
  go_wp2
  go_ret
  exact ⟨rfl, rfl⟩

theorem len_feb1 (y : Int) (h : y % 4 = 0 ∧ (y % 100 ≠ 0 ∨ y % 400 = 0)) : (29 : Int) = Cal.len0 y 1 := by
  simp [Cal.len0, Cal.lp, h]
theorem len_feb0 (y : Int) (h : ¬ (y % 4 = 0 ∧ (y % 100 ≠ 0 ∨ y % 400 = 0))) : (28 : Int) = Cal.len0 y 1 := by
  rw [Cal.len0, if_pos rfl, Cal.lp, if_neg h]; rfl
theorem len_30 (y mo : Int) (h : mo = 3 ∨ mo = 5 ∨ mo = 8 ∨ mo = 10) : (30 : Int) = Cal.len0 y mo := by
  rw [Cal.len0, if_neg (by omega), if_pos h]
theorem len_31 (y mo : Int) (h1 : ¬ mo = 1) (h : ¬ (mo = 3 ∨ mo = 5 ∨ mo = 8 ∨ mo = 10)) : (31 : Int) = Cal.len0 y mo := by
  rw [Cal.len0, if_neg h1, if_neg h]

set_option maxHeartbeats 800000 in
theorem len0 (y mo : Int) (h0 : 1 ≤ y) (h1 : y ≤ 10000) (w : World) :
    Calls Yba.prog 9 #[.int .i64 y, .int .i64 mo] w fun e w' => e = .returned (.int .i64 (Cal.len0 y mo)) ∧ w' = w := by
  by_cases m1 : mo = 1
  · subst m1
    by_cases c4 : y % 4 = 0
    · by_cases c100 : y % 100 = 0
      · by_cases c400 : y % 400 = 0
        · have H := hide (len_feb1 y ⟨c4, .inr c400⟩)
          go_enter Yba.func9, Yba.ntmps9
          go_wp2
          go_ret
          exact ⟨ret_int (unhide H), rfl⟩
        · have H := hide (len_feb0 y (by omega))
          go_enter Yba.func9, Yba.ntmps9
          go_wp2
          go_ret
          exact ⟨ret_int (unhide H), rfl⟩
      · have H := hide (len_feb1 y ⟨c4, .inl c100⟩)
        go_enter Yba.func9, Yba.ntmps9
        go_wp2
        go_ret
        exact ⟨ret_int (unhide H), rfl⟩
    · have H := hide (len_feb0 y (by omega))
      go_enter Yba.func9, Yba.ntmps9
      go_wp2
      go_ret
      exact ⟨ret_int (unhide H), rfl⟩
  · by_cases c : mo = 3 ∨ mo = 5 ∨ mo = 8 ∨ mo = 10
    · have H := hide (len_30 y mo c)
      rcases c with rfl | rfl | rfl | rfl
      all_goals
        go_enter Yba.func9, Yba.ntmps9
        go_wp2
        go_ret
        exact ⟨ret_int (unhide H), rfl⟩
    · have H := hide (len_31 y mo m1 c)
      have n3 : ¬ mo = 3 := by omega
      have n5 : ¬ mo = 5 := by omega
      have n8 : ¬ mo = 8 := by omega
      have n10 : ¬ mo = 10 := by omega
      clear c
      go_enter Yba.func9, Yba.ntmps9
      go_wp2
      go_ret
      exact ⟨ret_int (unhide H), rfl⟩
end Go.Proofs.Ybulkctqg.Month
