/-
  THE CONTRACT OF (*stream).event (6), in four cases.
-/
import Derived.Test.YbulkcttmInv
import Derived.WalkSpells
import Derived.Deep.QuietTactic
import Derived.BigQuiet
import Derived.Laws.Pointers
import Derived.RegionTactic
import Derived.WalkSmall
namespace Go.Proofs.Ybulkcttm.Event
open Go.RowKit

def none3 : Value := .agg #[.int .u64 0, .slice none 0 0, .bool false]

set_option linter.unusedVariables false

set_option maxRecDepth 100000 in
set_option maxHeartbeats 800000 in
theorem empty (S cp : Nat) (a : Option Addr) (N : Int) (w : World) (hS : S < w.heap.size) (hv : w.cell? ⟨S, 4, none⟩ = some (.slice a 0 cp)) :
    Calls Yba.prog 6 #[.pointer (some ⟨S, 0, none⟩), .int .u64 N] w fun e w' => e = .returned (.tuple #[none3, .bool false]) ∧ Below w.heap.size w w' := by
  go_enter Yba.func6, Yba.ntmps6
  go_wp2
  go_quiet (fail)
  go_wp2
  exact bodyPost_ret (v := .tuple #[none3, .bool false]) (by simp [results, Yba.results6, go_sem, none3]) rfl ⟨rfl, (((below_drewN ((Below.refl _ _).alloc (Nat.le_refl _) _) _).setCell (Nat.le_refl _) _).setCell (Nat.le_refl _) _).setCell (Nat.le_refl _) _⟩

set_option maxRecDepth 100000 in
set_option maxHeartbeats 800000 in
theorem less (S g len cp : Nat) (base N : Int) (w : World) (hS : S < w.heap.size) (hg : g < w.heap.size) (hl : 0 < len) (hl2 : len ≤ 1024) (hv : w.cell? ⟨S, 4, none⟩ = some (.slice (some ⟨g, 0, none⟩) len cp)) (hf : w.cell? ⟨g, 0, none⟩ = some (.int .u64 base)) (h : N < base) :
    Calls Yba.prog 6 #[.pointer (some ⟨S, 0, none⟩), .int .u64 N] w fun e w' => e = .returned (.tuple #[none3, .bool false]) ∧ Below w.heap.size w w' := by
  have l0 : ((len : Int) == 0) = false := beq_eq_false_iff_ne.2 (by omega)
  have l1 : (0 : Int) < (len : Int) := by omega
  have d1 : decide (N < base) = true := by simpa using h
  go_enter Yba.func6, Yba.ntmps6
  go_wp2
  go_quiet (fail)
  go_wp2
  exact bodyPost_ret (v := .tuple #[none3, .bool false]) (by simp [results, Yba.results6, go_sem, none3]) rfl ⟨rfl, (((below_drewN ((Below.refl _ _).alloc (Nat.le_refl _) _) _).setCell (Nat.le_refl _) _).setCell (Nat.le_refl _) _).setCell (Nat.le_refl _) _⟩

set_option maxRecDepth 100000 in
set_option maxHeartbeats 800000 in
theorem past (S g len cp : Nat) (base N : Int) (w : World) (hS : S < w.heap.size) (hg : g < w.heap.size) (hl : 0 < len) (hl2 : len ≤ 1024) (b0 : 0 ≤ base) (b1 : base ≤ 18446744073709551615) (n1 : N ≤ 18446744073709551615) (hv : w.cell? ⟨S, 4, none⟩ = some (.slice (some ⟨g, 0, none⟩) len cp)) (hf : w.cell? ⟨g, 0, none⟩ = some (.int .u64 base)) (h : base ≤ N) (h' : (len : Int) ≤ N - base) :
    Calls Yba.prog 6 #[.pointer (some ⟨S, 0, none⟩), .int .u64 N] w fun e w' => e = .returned (.tuple #[none3, .bool false]) ∧ Below w.heap.size w w' := by
  have l0 : ((len : Int) == 0) = false := beq_eq_false_iff_ne.2 (by omega)
  have l1 : (0 : Int) < (len : Int) := by omega
  have d1 : decide (N < base) = false := decide_eq_false (by omega)
  go_enter Yba.func6, Yba.ntmps6
  go_wp2
  go_quiet (fail)
  go_wp2
  exact bodyPost_ret (v := .tuple #[none3, .bool false]) (by simp [results, Yba.results6, go_sem, none3]) rfl ⟨rfl, (((below_drewN ((Below.refl _ _).alloc (Nat.le_refl _) _) _).setCell (Nat.le_refl _) _).setCell (Nat.le_refl _) _).setCell (Nat.le_refl _) _⟩

set_option maxRecDepth 100000 in
set_option maxHeartbeats 1600000 in
theorem found (S g len cp k : Nat) (base : Int) (gd : Nat) (r : Bool) (w : World) (hS : S < w.heap.size) (hg : g < w.heap.size) (hl2 : len ≤ 1024) (b0 : 0 ≤ base) (n1 : base + k ≤ 18446744073709551615) (hk : k < len) (hv : w.cell? ⟨S, 4, none⟩ = some (.slice (some ⟨g, 0, none⟩) len cp)) (hf : w.cell? ⟨g, 0, none⟩ = some (.int .u64 base))
    (e0 : w.cell? ⟨g, k * 3, none⟩ = some (.int .u64 (base + k))) (e1 : w.cell? ⟨g, k * 3 + 1, none⟩ = some (.slice (some ⟨gd, 0, none⟩) 2 2)) (e2 : w.cell? ⟨g, k * 3 + 2, none⟩ = some (.bool r)) :
    Calls Yba.prog 6 #[.pointer (some ⟨S, 0, none⟩), .int .u64 (base + k)] w fun e w' => e = .returned (.tuple #[.agg #[.int .u64 (base + k), .slice (some ⟨gd, 0, none⟩) 2 2, .bool r], .bool true]) ∧ Below w.heap.size w w' := by
  have l0 : ((len : Int) == 0) = false := beq_eq_false_iff_ne.2 (by omega)
  have l1 : (0 : Int) < (len : Int) := by omega
  have l2 : (k : Int) < (len : Int) := by omega
  have l3 : (0 : Int) ≤ (k : Int) := Int.natCast_nonneg _
  have d1 : decide (base + (k : Int) < base) = false := decide_eq_false (by omega)
  have d2 : decide ((len : Int) ≤ (k : Int)) = false := decide_eq_false (by omega)
  have hx : (base + (k : Int) - base).toNat = k := by omega
  rw [← hx] at e0 e1 e2
  rw [hx] at e0
  have e0' : w.cell? ⟨g, (base + (k : Int) - base).toNat * 3, none⟩ = some (.int .u64 (base + k)) := by rw [hx]; exact e0
  clear e0 hx
  go_enter Yba.func6, Yba.ntmps6
  go_wp2
  go_quiet (fail)
  go_wp2
  go_region
  go_wp2
  exact bodyPost_ret (v := .tuple #[.agg #[.int .u64 (base + k), .slice (some ⟨gd, 0, none⟩) 2 2, .bool r], .bool true]) (by simp [results, Yba.results6, go_sem]) rfl ⟨rfl, (((below_drewN ((Below.refl _ _).alloc (Nat.le_refl _) _) _).setCell (Nat.le_refl _) _).setCell (Nat.le_refl _) _).setCell (Nat.le_refl _) _⟩

end Go.Proofs.Ybulkcttm.Event
