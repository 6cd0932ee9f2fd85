/-
  THE WALK OF 'LawS4770AKept' (3) where there is no event, and where there are too many.
-/
import Derived.Test.YbulkcttmBuild
import Derived.Test.YbulkcttmEvent
import Derived.Test.YbulkcttmFacts
namespace Go.Proofs.Ybulkcttm.Kept
open Go.RowKit
set_option linter.unusedVariables false

set_option maxRecDepth 100000 in
set_option maxHeartbeats 800000 in
theorem long (base : Int) (a : Option Addr) (len cap : Nat) (o F : Int) (u : Bool) (w : World) (hl : 1024 < (len : Int)) :
    Calls Yba.prog 3 #[.int .u64 base, .slice a len cap, .int .u16 o, .int .u64 F, .bool u] w fun e w' => e = .returned (.bool true) ∧ Below w.heap.size w w' := by
  go_enter Yba.func3, Yba.ntmps3
  go_wp2_with fail
  go_ret
  exact ⟨rfl, Below.refl _ _⟩

set_option maxRecDepth 100000 in
set_option maxHeartbeats 1600000 in
theorem zero (base : Int) (a : Option Addr) (cap : Nat) (o F : Int) (u : Bool) (w : World) :
    Calls Yba.prog 3 #[.int .u64 base, .slice a 0 cap, .int .u16 o, .int .u64 F, .bool u] w fun e w' => e = .returned (.bool true) ∧ Below w.heap.size w w' := by
  cases u
  all_goals
    go_enter Yba.func3, Yba.ntmps3
    go_wp2_with fail
    refine (Build.build0 base a cap (fun _ => false) _).mono ?_
    rintro e w1 ⟨rfl, v, gs, hin⟩
    obtain ⟨a', cp, rfl⟩ := hin.form0
    have Hin : Hid (Inv w base (fun _ => false) 0 w1 (.slice a' 0 cp) gs) := hin
    clear hin
    have hs1 := Hin.out.sz
    have hev := Hin.out.ev
    go_wp2_with fail
    go_loop [13, 14, 15, 16] (fun f x e i => f = .bool false ∧ i = .int .i64 0) (fun _ _ _ i => 0)
    case atStart => exact ⟨rfl, rfl⟩
    case round =>
      obtain ⟨rfl, rfl⟩ := hrel
      go_wp2_with fail
      refine (Event.empty w.heap.size cp a' _ _ hs1 hev).mono ?_
      rintro e w2 ⟨rfl, hb⟩
      have hz := hb.size
      have hev2 : w2.cell? ⟨w.heap.size, 4, none⟩ = some (.slice a' 0 cp) := by rw [hb.cell hs1]; exact hev
      have z1 : w.heap.size < w2.heap.size := by omega
      have hnil : ∀ wx, (binOp .eql 27 (.slice none 0 0) (.slice none 0 0)).run Yba.prog wx = .ok (.bool true) wx := fun wx => by kernel_rfl
      have HB : Hid (Below w1.heap.size w1 w2) := hb
      clear hb hev
      unfold Event.none3
      go_wp2_with fail
      go_ret
      exact ⟨rfl, (Hin.out.bel.trans (HB.out.mono (by omega))).alloc (by omega) _⟩
end Go.Proofs.Ybulkcttm.Kept
