/-
  THE WALK OF 'LawS4764CShape' (8), out of Sub's contracts: three cases by the order of the two days.
-/
import Derived.Test.YbulkctqgSub
namespace Go.Proofs.Ybulkctqg.Shape
open Go.RowKit Go.Proofs.Ybulkctqg
set_option linter.unusedVariables false

theorem facts (n k : Int) (n0 : 0 ≤ n) (n1 : n ≤ 3652058) (k0 : 0 ≤ k) (k1 : k ≤ 3652058) (h : k < n) :
    0 < Cal.sub n k ∧ Cal.sub n k % 100 ≤ 30 ∧ Cal.sub n k / 100 % 100 ≤ 11 ∧ Cal.sub n k / 10000 ≤ 9998 ∧ Cal.sub n k ≤ 99981130 := by
  obtain ⟨Y, M, D, e, h1, h2, h3, h4, h5, h6, h7⟩ := Cal.sub_shape n k n0 n1 k0 k1 (by omega)
  have : ¬ (Y = 0 ∧ M = 0 ∧ D = 0) := fun ⟨a, b, c⟩ => by have := h7 a b c; omega
  rw [e]
  omega

set_option maxHeartbeats 400000 in
theorem lt (a0 a1 : Int) (h0 : 0 ≤ a0) (h1 : a0 ≤ 4294967295) (g0 : 0 ≤ a1) (g1 : a1 ≤ 4294967295) (h : a0 % 3652059 < a1 % 3652059) (w : World) :
    Calls Yba.prog 8 #[.int .u32 a0, .int .u32 a1] w fun e w' => e = .returned (.bool true) ∧ Grown w w' := by
  obtain ⟨f1, f2, f3, f4, f5⟩ := facts (a1 % 3652059) (a0 % 3652059) (by omega) (by omega) (by omega) (by omega) (by omega)
  have ne : ¬ a0 % 3652059 = a1 % 3652059 := by omega
  go_enter Yba.func8, Yba.ntmps8
  go_wp2_with fail
  refine (Sub.sub_lt _ _ (by omega) (by omega) (by omega) (by omega) h _).mono ?_
  rintro e w' ⟨rfl, rfl⟩
  go_wp2_with fail
  refine (Sub.sub_ge _ _ (by omega) (by omega) (by omega) (by omega) (by omega) _).mono ?_
  rintro e w' ⟨rfl, rfl⟩
  go_wp2_with fail
  go_ret
  refine ⟨rfl, ?_⟩
  iterate 14 apply Grown.alloc
  exact Grown.refl _

set_option maxHeartbeats 400000 in
theorem gt (a0 a1 : Int) (h0 : 0 ≤ a0) (h1 : a0 ≤ 4294967295) (g0 : 0 ≤ a1) (g1 : a1 ≤ 4294967295) (h : a1 % 3652059 < a0 % 3652059) (w : World) :
    Calls Yba.prog 8 #[.int .u32 a0, .int .u32 a1] w fun e w' => e = .returned (.bool true) ∧ Grown w w' := by
  obtain ⟨f1, f2, f3, f4, f5⟩ := facts (a0 % 3652059) (a1 % 3652059) (by omega) (by omega) (by omega) (by omega) (by omega)
  have ne : ¬ a0 % 3652059 = a1 % 3652059 := by omega
  go_enter Yba.func8, Yba.ntmps8
  go_wp2_with fail
  refine (Sub.sub_ge _ _ (by omega) (by omega) (by omega) (by omega) (by omega) _).mono ?_
  rintro e w' ⟨rfl, rfl⟩
  go_wp2_with fail
  refine (Sub.sub_lt _ _ (by omega) (by omega) (by omega) (by omega) h _).mono ?_
  rintro e w' ⟨rfl, rfl⟩
  go_wp2_with fail
  go_ret
  refine ⟨rfl, ?_⟩
  iterate 14 apply Grown.alloc
  exact Grown.refl _

set_option maxHeartbeats 400000 in
theorem eq (a0 a1 : Int) (h0 : 0 ≤ a0) (h1 : a0 ≤ 4294967295) (g0 : 0 ≤ a1) (g1 : a1 ≤ 4294967295) (h : ¬ a0 % 3652059 < a1 % 3652059) (g : ¬ a1 % 3652059 < a0 % 3652059) (w : World) :
    Calls Yba.prog 8 #[.int .u32 a0, .int .u32 a1] w fun e w' => e = .returned (.bool true) ∧ Grown w w' := by
  have z1 : Cal.sub (a0 % 3652059) (a1 % 3652059) = 0 := by
    rw [show a0 % 3652059 = a1 % 3652059 by omega]; exact Cal.sub_self _
  have z2 : Cal.sub (a1 % 3652059) (a0 % 3652059) = 0 := by
    rw [show a0 % 3652059 = a1 % 3652059 by omega]; exact Cal.sub_self _
  go_enter Yba.func8, Yba.ntmps8
  go_wp2_with fail
  refine (Sub.sub_ge _ _ (by omega) (by omega) (by omega) (by omega) (by omega) _).mono ?_
  rintro e w' ⟨rfl, rfl⟩
  go_wp2_with fail
  refine (Sub.sub_ge _ _ (by omega) (by omega) (by omega) (by omega) (by omega) _).mono ?_
  rintro e w' ⟨rfl, rfl⟩
  go_wp2_with fail
  go_ret
  refine ⟨rfl, ?_⟩
  iterate 14 apply Grown.alloc
  exact Grown.refl _

theorem walk (a0 a1 : Int) (h0 : 0 ≤ a0) (h1 : a0 ≤ 4294967295) (g0 : 0 ≤ a1) (g1 : a1 ≤ 4294967295) (w : World) :
    Calls Yba.prog 8 #[.int .u32 a0, .int .u32 a1] w fun e w' => e = .returned (.bool true) ∧ Grown w w' := by
  by_cases h : a0 % 3652059 < a1 % 3652059
  · exact lt a0 a1 h0 h1 g0 g1 h w
  · by_cases g : a1 % 3652059 < a0 % 3652059
    · exact gt a0 a1 h0 h1 g0 g1 g w
    · exact eq a0 a1 h0 h1 g0 g1 h g w
end Go.Proofs.Ybulkctqg.Shape
