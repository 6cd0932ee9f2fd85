/-
  'Rows.LawS4770AKeptSaid': the walk's cases joined; the frame after the tool's own for a law over slices, turned to a slice of bools.
-/
import Derived.Test.YbulkcttmRows
import Derived.WalkKit
import Derived.ProofKit
import Derived.OpenShut
import Derived.ShutString
import Derived.ChangeOld
import Derived.Below
import Derived.Deep.Grids
import Derived.Test.YbulkcttmKeptFar
import Derived.Test.YbulkcttmKeptNear
import Derived.Test.YbulkcttmKeptZero
namespace Go.Proofs.Ybulkcttm.lawS4770AKept
open Go.ChangeShapes Go.WideShapes Go.ChangeAt Go.RowKit
set_option linter.unusedVariables false

theorem own : ownKnob Yba.prog.godebug = none := by kernel_rfl
theorem laidOut : laidOutB Yba.prog = true := by kernel_rfl

/-- WHAT THE WALK IS TOLD OF A SLICE OF BOOLS THAT CAME IN. -/
def IsBools (w : World) (a : Option Addr) (len cap : Nat) (R : Nat → Bool) : Prop :=
  (a = none ∧ len = 0 ∧ cap = 0) ∨ ∃ x, a = some x ∧ len ≤ cap ∧ cap ≤ maxLen ∧ ∀ i, i < cap → w.cell? (x.add i) = some (.bool (R i))

theorem bools_at {w : World} {a : Addr} {n : Nat} {R : Nat → Bool} (h : ∀ i, i < n → w.cell? (a.add i) = some (.bool (R i))) (hp : 0 < n) :
    ∃ b off, a = ⟨b, off, none⟩ ∧ ∀ j, j < n → w.cell? ⟨b, off + j, none⟩ = some (.bool (R j)) := by
  obtain ⟨b, off, spot⟩ := a
  have hspot : spot = none := by simpa [Addr.add] using World.cell?_spot (h 0 hp)
  subst hspot
  exact ⟨b, off, rfl, fun j hj => by rw [← add_plain]; exact h j hj⟩

theorem walk (a0 : Int) (a1 : Option Addr) (len1 cap1 : Nat) (R : Nat → Bool) (a2 a3 : Int) (a4 : Bool) (w : World) (w0 : (Lit.int .u64 a0).wf = true) (w1 : IsBools w a1 len1 cap1 R) (w3 : (Lit.int .u64 a3).wf = true) :
    Calls Yba.prog 3 #[.int .u64 a0, .slice a1 len1 cap1, .int .u16 a2, .int .u64 a3, .bool a4] w fun e w' => e = .returned (.bool true) ∧ Below w.heap.size w w' := by
  by_cases hl : 1024 < (len1 : Int)
  · exact Kept.long a0 a1 len1 cap1 a2 a3 a4 w hl
  · by_cases h0 : len1 = 0
    · subst h0
      exact Kept.zero a0 a1 cap1 a2 a3 a4 w
    · have b := bounds_u64 w0
      have n := bounds_u64 w3
      rcases w1 with ⟨_, h, _⟩ | ⟨x, rfl, h1, _, h3⟩
      · exact absurd h h0
      · obtain ⟨bl, off, rfl, hc⟩ := bools_at (n := len1) (fun i hi => h3 i (by omega)) (by omega)
        cases a4
        · exact Kept.near a0 bl off len1 cap1 R a2 a3 w (by omega) (by omega) b.1 b.2 hc
        · exact Kept.far a0 bl off len1 cap1 R a2 a3 w (by omega) (by omega) b.1 b.2 n.1 n.2 hc

set_option maxRecDepth 100000 in
theorem lifted (os : Os) (started : os.Started) (H : Type) (enc : TypeId × Value → H) :
    ReturnsInHanded {} Yba.checked os 3 .any (Rows.lawS4770AKeptSpec.pre6 enc Yba.prog Yba.f3 Rows.lawS4770AKeptRow.domain false) (Rows.lawS4770AKeptSpec.post enc Yba.prog Yba.f3 false true false false) := by
  refine returnsInHanded_of_change (C := Yba.checked) own started (by kernel_rfl) Yba.func3
    (ChangeSpec.witness6 (enc := enc) (C := Yba.checked) false ⟨#[], #[.int .u64 0, .slice none 0 0, .int .u16 0, .int .u64 0, .bool false], []⟩ 8 (by kernel_rfl) (by kernel_rfl) (by kernel_rfl) (by kernel_rfl)) ?_
  intro W base args ds gs before hval0 hW hcnd _
  have hval : ∀ (j : Nat) t v, Yba.f3.params[j]? = some t → args[j]? = some v → Value.okWide Yba.prog W .any base t v := hval0
  have hW' := hW
  obtain ⟨p, q, hA0, hV, rfl, hfz, hnd⟩ := hW
  have hA : DataW.TrodAll enc Yba.prog W 0 (fun _ => true) true Yba.f3.params.toList args.toList ds p := hA0
  rw [Yba.params3] at hA hval
  obtain ⟨v0, vs0, d0, ds0, p0, q0, hargs, rfl, rfl, h0, r0⟩ := trodAll_cons hA
  obtain ⟨v1, vs1, d1, ds1, p1, q1, rfl, rfl, rfl, h1, r1⟩ := trodAll_cons r0
  obtain ⟨v2, vs2, d2, ds2, p2, q2, rfl, rfl, rfl, h2, r2⟩ := trodAll_cons r1
  obtain ⟨v3, vs3, d3, ds3, p3, q3, rfl, rfl, rfl, h3, r3⟩ := trodAll_cons r2
  obtain ⟨v4, vs4, d4, ds4, p4, q4, rfl, rfl, rfl, h4, r4⟩ := trodAll_cons r3
  obtain ⟨rfl, rfl, rfl⟩ := trodAll_nil r4
  obtain rfl : args = #[v0, v1, v2, v3, v4] := by cases args; simp_all
  obtain ⟨rfl, rfl⟩ := trodVars_none hV
  obtain ⟨a0, rfl, rfl, rfl, w0⟩ := open_int Yba.underlying22 (hval 0 22 v0 rfl rfl) h0
  obtain ⟨a1, len1, cap1, rfl⟩ := okWide_slice Yba.underlying23 (hval 1 23 v1 rfl rfl)
  have k1 := h1
  have lt1 : ∀ x ∈ p1, x.block < W.heap.size := by obtain ⟨m, hm⟩ := k1; exact DataW.trod_lt m _ _ _ hm
  obtain ⟨R, w1⟩ : ∃ R, IsBools W a1 len1 cap1 R := by
    obtain ⟨fuel, hf⟩ := h1
    rcases Deep.open_bools Yba.underlying23 Yba.underlying4 (by kernel_rfl) hf with ⟨hcs, _⟩ | ⟨x, l, c, B, hcs, _, hl, hm, _, hcell⟩
    · simp [Value.cells] at hcs
      obtain ⟨rfl, rfl, rfl⟩ := hcs
      exact ⟨fun _ => false, .inl ⟨rfl, rfl, rfl⟩⟩
    · simp [Value.cells] at hcs
      obtain ⟨rfl, rfl, rfl⟩ := hcs
      exact ⟨B, .inr ⟨_, rfl, hl, hm, hcell⟩⟩
  obtain ⟨a2, rfl, rfl, rfl, w2⟩ := open_int Yba.underlying24 (hval 2 24 v2 rfl rfl) h2
  obtain ⟨a3, rfl, rfl, rfl, w3⟩ := open_int Yba.underlying22 (hval 3 22 v3 rfl rfl) h3
  obtain ⟨a4, rfl, rfl, rfl⟩ := open_bool Yba.underlying4 (hval 4 4 v4 rfl rfl) h4
  clear hA0 hval0
  refine (walk a0 a1 len1 cap1 R a2 a3 a4 W w0 w1 w3).mono fun e W' ⟨he, bel⟩ => ?_
  subst he
  exact ⟨_, rfl, _, _, _, [], _, [], hW', trodAll_mk1 (shut_bool Yba.underlying4 _), (trodAll_cons_mk (shut_int Yba.underlying22 w0) (trodAll_cons_mk (Below.trod laidOut (by kernel_rfl) (of_decide_eq_true (by kernel_rfl)) k1 bel lt1) (trodAll_cons_mk (shut_int Yba.underlying24 w2) (trodAll_cons_mk (shut_int Yba.underlying22 w3) (trodAll_cons_mk (shut_bool Yba.underlying4 _) trodAll_mk0))))), rfl, bel.frame _, fun h => by cases h⟩

theorem over : Rows.lawS4770AKeptRow.holds Yba.pinned (OpenSpec.ofChange Rows.lawS4770AKeptSpec) :=
  OpenClaim.holds_of_wide 3 Yba.f3 rfl rfl rfl rfl rfl rfl rfl ⟨rfl, rfl, rfl, rfl, rfl⟩ rfl rfl rfl rfl rfl (by kernel_rfl) Yba.func3 (by kernel_rfl)
    (of_decide_eq_true (by kernel_rfl)) (by unfold Func.isWrapper; first | (rw [if_pos (by decide +kernel)]; kernel_rfl) | (rw [if_neg (by decide +kernel)]; exact ⟨rfl, rfl⟩))
    (fun os started H enc _ => lifted os started H enc)

/-- THE STATEMENT -/
theorem proved : Rows.LawS4770AKeptSaid := over
#print axioms proved
end Go.Proofs.Ybulkcttm.lawS4770AKept
