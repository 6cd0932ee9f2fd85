/-
  THE WALK OF 'LawS4764BSets': three ways through: a long text; parse succeeds; parse fails. unmarshalInto[int] and the closure are walked in place.
-/
import Derived.Test.YbulkctqgBBase
import Derived.RegionTactic
namespace Go.Proofs.Ybulkctqg.lawS4764BSets
open Go.RowKit Go.Proofs.Ybulkctqg.BBase
set_option linter.unusedVariables false

set_option maxRecDepth 100000 in
set_option maxHeartbeats 400000 in
theorem walk_ok (a0 : Int) (a1 : Option Addr) (len1 cap1 : Nat) (z1 : List Int) (a3 : Int) (w : World) (hl : ¬ 4096 < (len1 : Int))
    (hconv : ∀ w', Below w.heap.size w w' → (convert 26 9 (.slice a1 len1 cap1)).run Yba.prog w' = .ok (.string (text a1 len1 z1)) w') :
    Calls Yba.prog 5 #[.int .i64 a0, .slice a1 len1 cap1, .bool false, .int .i64 a3] w fun e w' => e = .returned (.bool true) ∧ Below w.heap.size w w' := by
  have hmf : ∀ (fn : Fn) (first cap : Array Value) (w : World), (Instr.makeFunc fn first cap).run Yba.prog w = .ok (.func fn first cap) w := fun _ _ _ _ => rfl
  have heq := eql_same
  go_enter Yba.func5, Yba.ntmps5
  go_wp2
  rw [hconv]
  · go_wp2
    rw [hconv]
    · go_wp2
      go_ret
      exact ⟨rfl, by repeat (first | exact below_self _ | apply below_alloc)⟩
    · repeat (first | exact below_self _ | apply below_alloc)
  · repeat (first | exact below_self _ | apply below_alloc)

set_option maxRecDepth 100000 in
set_option maxHeartbeats 400000 in
theorem walk_bad (a0 : Int) (a1 : Option Addr) (len1 cap1 : Nat) (z1 : List Int) (a3 : Int) (w : World) (hl : ¬ 4096 < (len1 : Int))
    (hconv : ∀ w', Below w.heap.size w w' → (convert 26 9 (.slice a1 len1 cap1)).run Yba.prog w' = .ok (.string (text a1 len1 z1)) w') :
    Calls Yba.prog 5 #[.int .i64 a0, .slice a1 len1 cap1, .bool true, .int .i64 a3] w fun e w' => e = .returned (.bool true) ∧ Below w.heap.size w w' := by
  have hmf : ∀ (fn : Fn) (first cap : Array Value) (w : World), (Instr.makeFunc fn first cap).run Yba.prog w = .ok (.func fn first cap) w := fun _ _ _ _ => rfl
  have heq := eql_same
  go_enter Yba.func5, Yba.ntmps5
  go_wp2
  rw [hconv]
  · go_wp2
    go_region
    go_wp2
    rw [hconv]
    · go_wp2
      go_ret
      exact ⟨rfl, by repeat (first | exact below_self _ | apply below_drew | apply below_alloc)⟩
    · repeat (first | exact below_self _ | apply below_drew | apply below_alloc)
  · repeat (first | exact below_self _ | apply below_alloc)

set_option maxRecDepth 100000 in
theorem walk_long (a0 : Int) (a1 : Option Addr) (len1 cap1 : Nat) (a2 : Bool) (a3 : Int) (w : World) (hl : 4096 < (len1 : Int)) :
    Calls Yba.prog 5 #[.int .i64 a0, .slice a1 len1 cap1, .bool a2, .int .i64 a3] w fun e w' => e = .returned (.bool true) ∧ Below w.heap.size w w' := by
  go_enter Yba.func5, Yba.ntmps5
  go_wp2
  go_ret
  exact ⟨rfl, by repeat (first | exact below_self _ | apply below_alloc)⟩

theorem walk (a0 : Int) (a1 : Option Addr) (len1 cap1 : Nat) (z1 : List Int) (a2 : Bool) (a3 : Int) (w : World) (w0 : (Lit.int .i64 a0).wf = true) (w1 : IsRow .u8 w a1 len1 cap1 z1) (w3 : (Lit.int .i64 a3).wf = true) :
    Calls Yba.prog 5 #[.int .i64 a0, .slice a1 len1 cap1, .bool a2, .int .i64 a3] w fun e w' => e = .returned (.bool true) ∧ Below w.heap.size w w' := by
  by_cases hl : 4096 < (len1 : Int)
  · exact walk_long a0 a1 len1 cap1 a2 a3 w hl
  · cases a2
    · exact walk_ok a0 a1 len1 cap1 z1 a3 w hl fun w' hb => conv w1 hb
    · exact walk_bad a0 a1 len1 cap1 z1 a3 w hl fun w' hb => conv w1 hb
end Go.Proofs.Ybulkctqg.lawS4764BSets
