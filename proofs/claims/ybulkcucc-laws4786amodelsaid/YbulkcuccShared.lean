/-
  THE CONTRACT OF zzs4786ashared (8): the first bit in which two IDs part.
-/
import Derived.Test.YbulkcuccIds
import Derived.WalkSpells
import Derived.WalkSmall
import Derived.Deep.QuietTactic
import Derived.BigQuiet
import Derived.LoopTactic
import Derived.Laws.ShiftsVarLaws
import Derived.Laws.ShiftsVar
namespace Go.Proofs.Ybulkcucc
open Go.RowKit
set_option linter.unusedVariables false

/-- Do the two IDs part in bit k? -/
def diff (x y : Nat → Int) (k : Nat) : Bool := bits BinOp.and IntKind.u8 (x (k / 8)) (128 / 2 ^ (k % 8)) != bits BinOp.and IntKind.u8 (y (k / 8)) (128 / 2 ^ (k % 8))
/-- s is the first bit in which they part, or 160. -/
def First (x y : Nat → Int) (s : Nat) : Prop := s ≤ 160 ∧ (∀ j, j < s → diff x y j = false) ∧ (s < 160 → diff x y s = true)
theorem First.unique {x y : Nat → Int} {s t : Nat} (h : First x y s) (g : First x y t) : s = t := by
  obtain ⟨h1, h2, h3⟩ := h
  obtain ⟨g1, g2, g3⟩ := g
  rcases Nat.lt_trichotomy s t with l | e | l
  · have := g2 s l; rw [h3 (by omega)] at this; cases this
  · exact e
  · have := h2 t l; rw [g3 (by omega)] at this; cases this

theorem idAt_drewN {w : World} {b o : Nat} {x : Nat → Int} (h : IdAt w b o x) (n : Nat) : IdAt (w.drewN n) b o x := fun i hi => by have := h i hi; simpa using this

set_option maxRecDepth 100000 in
set_option maxHeartbeats 800000 in
theorem ashared (x y : Nat → Int) (w : World) :
    Calls Yba.prog 8 #[idV x, idV y] w fun e w' => ∃ s : Nat, e = .returned (.int .i64 s) ∧ First x y s ∧ Below w.heap.size w w' := by
  have hA : IdAt ((w.alloc (.cells (ids x).toArray 25)).alloc (.cells (ids y).toArray 25)) w.heap.size 0 x := idAt_block (heap_alloc2_old w _ _)
  have hB : IdAt ((w.alloc (.cells (ids x).toArray 25)).alloc (.cells (ids y).toArray 25)) (w.heap.size + 1) 0 y := idAt_block (heap_alloc2_new w _ _)
  have HA := And.intro hA hB
  have HH : Hid (IdAt ((w.alloc (.cells (ids x).toArray 25)).alloc (.cells (ids y).toArray 25)) w.heap.size 0 x ∧ IdAt ((w.alloc (.cells (ids x).toArray 25)).alloc (.cells (ids y).toArray 25)) (w.heap.size + 1) 0 y) := HA
  clear hA hB HA
  unfold idV
  go_enter Yba.func8, Yba.ntmps8
  go_wp2
  go_loopw [5] (fun i wr => ∃ k : Nat, k ≤ 160 ∧ i = .int .i64 k ∧ IdAt wr w.heap.size 0 x ∧ IdAt wr (w.heap.size + 1) 0 y ∧ Below w.heap.size w wr ∧ ∀ j, j < k → diff x y j = false) (fun i _ => 160 - (intOf i).toNat)
  case atStart => exact ⟨0, by omega, rfl, HH.out.1, HH.out.2, ((Below.refl _ _).alloc (Nat.le_refl _) _).alloc (by simp) _, fun j hj => by omega⟩
  case round =>
    obtain ⟨k, hk, rfl, hx, hy, hb, hd⟩ := hrel
    have HD : Hid (IdAt wr w.heap.size 0 x ∧ IdAt wr (w.heap.size + 1) 0 y ∧ Below w.heap.size w wr ∧ ∀ j, j < k → diff x y j = false) := ⟨hx, hy, hb, hd⟩
    by_cases hlt : (k : Int) < 160
    · have h0 : (0 : Int) ≤ (k : Int) := Int.natCast_nonneg _
      have e8 : ((k : Int) / 8).toNat = k / 8 := by omega
      have cx : wr.cell? ⟨w.heap.size, ((k : Int) / 8).toNat, none⟩ = some (.int .u8 (x (k / 8))) := by have := hx (k / 8) (by omega); rw [e8]; simpa using this
      have cy : wr.cell? ⟨w.heap.size + 1, ((k : Int) / 8).toNat, none⟩ = some (.int .u8 (y (k / 8))) := by have := hy (k / 8) (by omega); rw [e8]; simpa using this
      have hw : IntKind.i64.wrap ((k : Int) / 8) = (k : Int) / 8 := by rw [IntKind.wrap_i64]; omega
      have l0 : (0 : Int) ≤ (k : Int) / 8 := by omega
      have l1 : (k : Int) / 8 < 20 := by omega
      clear hx hy e8 hb hd
      by_cases hdk : (bits BinOp.and IntKind.u8 (x (k / 8)) (128 / 2 ^ (k % 8)) != bits BinOp.and IntKind.u8 (y (k / 8)) (128 / 2 ^ (k % 8))) = true
      · go_wp2
        go_quiet (fail)
        go_wp2
        go_ret
        obtain ⟨d1, d2, d3, d4⟩ := HD.out
        exact ⟨k, rfl, ⟨hk, d4, fun _ => hdk⟩, below_drewN d3 _⟩
      · have hdk' : (bits BinOp.and IntKind.u8 (x (k / 8)) (128 / 2 ^ (k % 8)) != bits BinOp.and IntKind.u8 (y (k / 8)) (128 / 2 ^ (k % 8))) = false := by simpa using hdk
        clear hdk
        go_wp2
        go_quiet (fail)
        go_wp2
        go_roundw
        case rel =>
          obtain ⟨d1, d2, d3, d4⟩ := HD.out
          refine ⟨k + 1, by omega, by go_num, idAt_drewN d1 _, idAt_drewN d2 _, below_drewN d3 _, fun j hj => ?_⟩
          by_cases e : j = k
          · subst e; exact hdk'
          · exact d4 j (by omega)
        case measure => simp [intOf]; omega
    · clear hx hy hb hd
      go_wp2
      go_ret
      obtain ⟨d1, d2, d3, d4⟩ := HD.out
      have e : k = 160 := by omega
      subst e
      exact ⟨160, rfl, ⟨hk, d4, fun h => by omega⟩, d3⟩
end Go.Proofs.Ybulkcucc
