/-
  'Rows.LawS4786AModelSaid': the walk's cases joined; the frame after the tool's own for a law over plain data, turned to an array of bytes and a slice of items.
-/
import Derived.Test.YbulkcuccRows
import Derived.WalkKit
import Derived.ProofKit
import Derived.OpenShut
import Derived.ShutString
import Derived.ChangeOld
import Derived.Below
import Derived.Test.YbulkcuccOpen
import Derived.Test.YbulkcuccZero
namespace Go.Proofs.Ybulkcucc.lawS4786AModel
open Go.ChangeShapes Go.WideShapes Go.ChangeAt Go.RowKit
set_option linter.unusedVariables false

theorem own : ownKnob Yba.prog.godebug = none := by kernel_rfl
theorem laidOut : laidOutB Yba.prog = true := by kernel_rfl

theorem walk {H : Type} {enc : TypeId × Value → H} {base : Nat} {spare : Nat → Bool} {held : Bool} {d : DataW H} {p : List MemPlace} (s : Nat → Int) (nb : Int) (a : Option Addr) (len cap : Nat) (pick qpos qlow qport : Int) (w : World) (hs : Bytes s) (w1 : (Lit.int .u8 nb).wf = true)
    (h : DataW.Trod enc Yba.prog w base spare held 23 (.slice a len cap) d p) (w3 : (Lit.int .u16 pick).wf = true) (w4 : (Lit.int .u8 qpos).wf = true) (w5 : (Lit.int .u8 qlow).wf = true) :
    Calls Yba.prog 3 #[idV s, .int .u8 nb, .slice a len cap, .int .u16 pick, .int .u8 qpos, .int .u8 qlow, .int .u16 qport] w fun e w' => e = .returned (.bool true) ∧ Below w.heap.size w w' := by
  have b1 := bounds_u8 w1
  have b3 := bounds_u16 w3
  have b4 := bounds_u8 w4
  have b5 := bounds_u8 w5
  by_cases hl : 1024 < (len : Int)
  · exact long s nb a len cap pick qpos qlow qport w hl
  · obtain ⟨n, hn⟩ : ∃ n : Nat, 1 + nb % 12 = (n : Int) := ⟨(1 + nb % 12).toNat, by omega⟩
    by_cases h0 : len = 0
    · subst h0
      exact zero s nb a cap pick qpos qlow qport n w hs hn (by omega) (by omega) b1.1 b1.2 b3.1 b3.2 b4.1 b4.2 b5.1 b5.2
    · obtain ⟨ib, io, Pos, Low, Port, Slot, Mis, rfl, hI⟩ := open_items h (by omega)
      exact law s nb ib io len cap Pos Low Port Slot Mis pick qpos qlow qport n w hs hn (by omega) (by omega) b1.1 b1.2 hl hI b3.1 b3.2 b4.1 b4.2 b5.1 b5.2

set_option maxRecDepth 100000 in
theorem lifted (os : Os) (started : os.Started) (H : Type) (enc : TypeId × Value → H) :
    ReturnsInHanded {} Yba.checked os 3 .any (Rows.lawS4786AModelSpec.pre6 enc Yba.prog Yba.f3 Rows.lawS4786AModelRow.domain false) (Rows.lawS4786AModelSpec.post enc Yba.prog Yba.f3 false true false false) := by
  refine returnsInHanded_of_change (C := Yba.checked) own started (by kernel_rfl) Yba.func3
    (ChangeSpec.witness6 (enc := enc) (C := Yba.checked) false ⟨#[], #[idV zid, .int .u8 0, .slice none 0 0, .int .u16 0, .int .u8 0, .int .u8 0, .int .u16 0], []⟩ 8 (by kernel_rfl) (by kernel_rfl) (by kernel_rfl) (by kernel_rfl)) ?_
  intro W base args ds gs before hval0 hW hcnd _
  have hval : ∀ (j : Nat) t v, Yba.f3.params[j]? = some t → args[j]? = some v → Value.okWide Yba.prog W .any base t v := hval0
  have hW' := hW
  obtain ⟨p, q, hA0, hV, rfl, hfz, hnd⟩ := hW
  have hA : DataW.TrodAll enc Yba.prog W 0 (fun _ => true) true Yba.f3.params.toList args.toList ds p := hA0
  rw [Yba.params3] at hA hval
  obtain ⟨v0, vs0, d0, ds0, p0, q0, hargs, rfl, rfl, h0, r0⟩ := trodAll_cons hA
  obtain ⟨v1, vs1, d1, ds1, p1, q1, rfl, rfl, rfl, h1, r1⟩ := trodAll_cons r0
  obtain ⟨v2, vs2, d2, ds2, p2, q2, rfl, rfl, rfl, h2, r2⟩ := trodAll_cons r1
  obtain ⟨v3, vs3, d3, ds3, p3, q3, rfl, rfl, rfl, h3, r3⟩ := trodAll_cons r2
  obtain ⟨v4, vs4, d4, ds4, p4, q4, rfl, rfl, rfl, h4, r4⟩ := trodAll_cons r3
  obtain ⟨v5, vs5, d5, ds5, p5, q5, rfl, rfl, rfl, h5, r5⟩ := trodAll_cons r4
  obtain ⟨v6, vs6, d6, ds6, p6, q6, rfl, rfl, rfl, h6, r6⟩ := trodAll_cons r5
  obtain ⟨rfl, rfl, rfl⟩ := trodAll_nil r6
  obtain rfl : args = #[v0, v1, v2, v3, v4, v5, v6] := by cases args; simp_all
  obtain ⟨rfl, rfl⟩ := trodVars_none hV
  have k0 := h0
  have lt0 : ∀ x ∈ p0, x.block < W.heap.size := by obtain ⟨m, hm⟩ := k0; exact DataW.trod_lt m _ _ _ hm
  obtain ⟨s, bs, rfl⟩ := open_id h0
  obtain ⟨a1, rfl, rfl, rfl, w1⟩ := open_int Yba.underlying5 (hval 1 5 v1 rfl rfl) h1
  obtain ⟨a2, len2, cap2, rfl⟩ := okWide_slice Yba.underlying23 (hval 2 23 v2 rfl rfl)
  have k2 := h2
  have lt2 : ∀ x ∈ p2, x.block < W.heap.size := by obtain ⟨m, hm⟩ := k2; exact DataW.trod_lt m _ _ _ hm
  obtain ⟨a3, rfl, rfl, rfl, w3⟩ := open_int Yba.underlying24 (hval 3 24 v3 rfl rfl) h3
  obtain ⟨a4, rfl, rfl, rfl, w4⟩ := open_int Yba.underlying5 (hval 4 5 v4 rfl rfl) h4
  obtain ⟨a5, rfl, rfl, rfl, w5⟩ := open_int Yba.underlying5 (hval 5 5 v5 rfl rfl) h5
  obtain ⟨a6, rfl, rfl, rfl, w6⟩ := open_int Yba.underlying24 (hval 6 24 v6 rfl rfl) h6
  clear hA0 hval0
  refine (walk s a1 a2 len2 cap2 a3 a4 a5 a6 W bs w1 h2 w3 w4 w5).mono fun e W' ⟨he, bel⟩ => ?_
  subst he
  exact ⟨_, rfl, _, _, _, [], _, [], hW', trodAll_mk1 (shut_bool Yba.underlying4 _), (trodAll_cons_mk (Below.trod laidOut (by kernel_rfl) (of_decide_eq_true (by kernel_rfl)) k0 bel lt0) (trodAll_cons_mk (shut_int Yba.underlying5 w1) (trodAll_cons_mk (Below.trod laidOut (by kernel_rfl) (of_decide_eq_true (by kernel_rfl)) k2 bel lt2) (trodAll_cons_mk (shut_int Yba.underlying24 w3) (trodAll_cons_mk (shut_int Yba.underlying5 w4) (trodAll_cons_mk (shut_int Yba.underlying5 w5) (trodAll_cons_mk (shut_int Yba.underlying24 w6) trodAll_mk0))))))), rfl, bel.frame _, fun h => by cases h⟩

theorem over : Rows.lawS4786AModelRow.holds Yba.pinned (OpenSpec.ofChange Rows.lawS4786AModelSpec) :=
  OpenClaim.holds_of_wide 3 Yba.f3 rfl rfl rfl rfl rfl rfl rfl ⟨rfl, rfl, rfl, rfl, rfl⟩ rfl rfl rfl rfl rfl (by kernel_rfl) Yba.func3 (by kernel_rfl)
    (of_decide_eq_true (by kernel_rfl)) (by unfold Func.isWrapper; first | (rw [if_pos (by decide +kernel)]; kernel_rfl) | (rw [if_neg (by decide +kernel)]; exact ⟨rfl, rfl⟩))
    (fun os started H enc _ => lifted os started H enc)

/-- THE STATEMENT -/
theorem proved : Rows.LawS4786AModelSaid := over
#print axioms proved
end Go.Proofs.Ybulkcucc.lawS4786AModel
