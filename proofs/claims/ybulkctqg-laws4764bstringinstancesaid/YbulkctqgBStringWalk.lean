/-
  THE WALK OF 'LawS4764BStringInstance': three ways through: a long text; an empty text (parse fails); any other (parse succeeds). unmarshalInto[string] and the closure are walked in place.
-/
import Derived.Test.YbulkctqgBBase
import Derived.RegionTactic
namespace Go.Proofs.Ybulkctqg.lawS4764BStringInstance
open Go.RowKit Go.Proofs.Ybulkctqg.BBase
set_option linter.unusedVariables false

set_option maxRecDepth 100000 in
set_option maxHeartbeats 400000 in
theorem walk_ok (s0 : ByteArray) (a1 : Option Addr) (len1 cap1 : Nat) (S : ByteArray) (w : World) (hl : ¬ 4096 < (len1 : Int)) (hp : ((len1 : Int) == 0) = false) (hS0 : ((S.size : Int) == 0) = false) (hS : S.size ≤ 4096)
    (hconv : ∀ w', Below w.heap.size w w' → (convert 26 9 (.slice a1 len1 cap1)).run Yba.prog w' = .ok (.string S) w') :
    Calls Yba.prog 6 #[.string s0, .slice a1 len1 cap1] w fun e w' => e = .returned (.bool true) ∧ Below w.heap.size w w' := by
  have hmf : ∀ (fn : Fn) (first cap : Array Value) (w : World), (Instr.makeFunc fn first cap).run Yba.prog w = .ok (.func fn first cap) w := fun _ _ _ _ => rfl
  have heq := eql_same
  go_enter Yba.func6, Yba.ntmps6
  go_wp2
  rw [hconv]
  · go_wp2
    rw [hconv]
    · go_wp2
      go_ret
      exact ⟨rfl, by repeat (first | exact below_self _ | apply below_alloc)⟩
    · repeat (first | exact below_self _ | apply below_alloc)
  · repeat (first | exact below_self _ | apply below_alloc)

set_option maxRecDepth 100000 in
set_option maxHeartbeats 400000 in
theorem walk_bad (s0 : ByteArray) (a1 : Option Addr) (cap1 : Nat) (w : World) 
    (hconv : ∀ w', Below w.heap.size w w' → (convert 26 9 (.slice a1 0 cap1)).run Yba.prog w' = .ok (.string { data := #[] }) w') :
    Calls Yba.prog 6 #[.string s0, .slice a1 0 cap1] w fun e w' => e = .returned (.bool true) ∧ Below w.heap.size w w' := by
  have hmf : ∀ (fn : Fn) (first cap : Array Value) (w : World), (Instr.makeFunc fn first cap).run Yba.prog w = .ok (.func fn first cap) w := fun _ _ _ _ => rfl
  have heq := eql_same
  go_enter Yba.func6, Yba.ntmps6
  go_wp2
  rw [hconv]
  · go_wp2
    go_region
    go_wp2
    go_ret
    exact ⟨rfl, by repeat (first | exact below_self _ | apply below_drew | apply below_alloc)⟩
  · repeat (first | exact below_self _ | apply below_alloc)

set_option maxRecDepth 100000 in
theorem walk_long (s0 : ByteArray) (a1 : Option Addr) (len1 cap1 : Nat) (w : World) (hl : 4096 < (len1 : Int)) :
    Calls Yba.prog 6 #[.string s0, .slice a1 len1 cap1] w fun e w' => e = .returned (.bool true) ∧ Below w.heap.size w w' := by
  go_enter Yba.func6, Yba.ntmps6
  go_wp2
  go_ret
  exact ⟨rfl, by repeat (first | exact below_self _ | apply below_alloc)⟩

theorem walk (a0 : ByteArray) (a1 : Option Addr) (len1 cap1 : Nat) (z1 : List Int) (w : World) (w0 : a0.size ≤ maxLen) (w1 : IsRow .u8 w a1 len1 cap1 z1) :
    Calls Yba.prog 6 #[.string a0, .slice a1 len1 cap1] w fun e w' => e = .returned (.bool true) ∧ Below w.heap.size w w' := by
  by_cases hl : 4096 < (len1 : Int)
  · exact walk_long a0 a1 len1 cap1 w hl
  · have hs := text_size w1
    by_cases h0 : len1 = 0
    · subst h0
      have e : text a1 0 z1 = { data := #[] } := by
        cases a1
        · rfl
        · simp [text, strOfNums]
      exact walk_bad a0 a1 cap1 w fun w' hb => by rw [conv w1 hb, e]
    · exact walk_ok a0 a1 len1 cap1 (text a1 len1 z1) w hl (beq_eq_false_iff_ne.2 (by omega)) (beq_eq_false_iff_ne.2 (by omega)) (by omega) fun w' hb => conv w1 hb
end Go.Proofs.Ybulkctqg.lawS4764BStringInstance
