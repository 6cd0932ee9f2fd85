/-
  THE WALK OF 'LawS4770AKept' (3) where the number is base + off.
-/
import Derived.Test.YbulkcttmBuild
import Derived.Test.YbulkcttmEvent
import Derived.Test.YbulkcttmFacts
namespace Go.Proofs.Ybulkcttm.Kept
open Go.RowKit
set_option linter.unusedVariables false

set_option maxRecDepth 100000 in
set_option maxHeartbeats 1600000 in
theorem near (base : Int) (b off len cap : Nat) (R : Nat → Bool) (o F : Int) (w : World) (hl : len ≤ 1024) (hp : 0 < len) (b0 : 0 ≤ base) (b1 : base ≤ 18446744073709551615)
    (hR : ∀ i, i < len → w.cell? ⟨b, off + i, none⟩ = some (.bool (R i))) :
    Calls Yba.prog 3 #[.int .u64 base, .slice (some ⟨b, off, none⟩) len cap, .int .u16 o, .int .u64 F, .bool false] w fun e w' => e = .returned (.bool true) ∧ Below w.heap.size w w' := by
  have HR : Hid (∀ i, i < len → w.cell? ⟨b, off + i, none⟩ = some (.bool (R i))) := hR
  clear hR
  have l0 : ¬ 1024 < (len : Int) := by omega
  go_enter Yba.func3, Yba.ntmps3
  go_wp2_with fail
  refine (Build.build base b off len cap R _ hl HR.out).mono ?_
  rintro e w1 ⟨rfl, v, gs, hin⟩
  obtain ⟨g, cp, rfl, hg, hc⟩ := hin.form hp
  have Hin : Hid (Inv w base R len w1 (.slice (some ⟨g, 0, none⟩) len cp) gs) := hin
  have Hc : Hid (∀ i, i < len → w1.cell? ⟨g, i * 3, none⟩ = some (.int .u64 (num base i)) ∧ w1.cell? ⟨g, i * 3 + 1, none⟩ = some (.slice (some ⟨gs i, 0, none⟩) 2 2) ∧ w1.cell? ⟨g, i * 3 + 2, none⟩ = some (.bool (R i))) := hc
  clear hin hc
  have n0 : 0 ≤ IntKind.u64.wrap (base + IntKind.u64.wrap o) := by rw [IntKind.wrap_u64]; omega
  have n1 : IntKind.u64.wrap (base + IntKind.u64.wrap o) ≤ 18446744073709551615 := by rw [IntKind.wrap_u64]; omega
  go_wp2_with fail
  generalize IntKind.u64.wrap (base + IntKind.u64.wrap o) = N at n0 n1 ⊢
  have hs1 := Hin.out.sz
  have hev := Hin.out.ev
  have hf : w1.cell? ⟨g, 0, none⟩ = some (.int .u64 base) := by
    have := (Hc.out 0 hp).1
    rw [num_eq base 0 b0 (by simpa using b1)] at this
    simpa using this
  go_loop [13, 14, 15, 16] (fun f x e i => ∃ k : Nat, k ≤ len ∧ i = .int .i64 k ∧ f = .bool false ∧ x = .int .i64 0 ∧ e = .int .u64 (base + k) ∧ base + k ≤ 18446744073709551615 ∧ (N < base ∨ base + k ≤ N)) (fun _ _ _ i => len - (intOf i).toNat)
  case atStart => exact ⟨0, Nat.zero_le _, rfl, rfl, rfl, congrArg (Value.int .u64) (by simp), by simpa using b1, by omega⟩
  case round =>
    obtain ⟨k, hk, rfl, rfl, rfl, rfl, hm, hcase⟩ := hrel
    have HC : Hid (N < base ∨ base + k ≤ N) := hcase
    clear hcase
    by_cases hlt : (k : Int) < (len : Int)
    · by_cases he : base + (k : Int) = N
      · subst he
        have e0 := (Hc.out k (by omega)).1
        rw [num_eq base k b0 hm] at e0
        have e1 := (Hc.out k (by omega)).2.1
        have e2 := (Hc.out k (by omega)).2.2
        go_wp2_with fail
        refine (Event.found w.heap.size g len cp k base (gs k) (R k) _ hs1 hg hl b0 hm (by omega) hev hf e0 e1 e2).mono ?_
        rintro e w2 ⟨rfl, hb⟩
        have hz := hb.size
        have b0w : b < w.heap.size := World.block_lt_of_cell? w _ (HR.out k (by omega))
        have hev2 : w2.cell? ⟨w.heap.size, 4, none⟩ = some (.slice (some ⟨g, 0, none⟩) len cp) := by rw [hb.cell hs1]; exact hev
        have hf2 : w2.cell? ⟨g, 0, none⟩ = some (.int .u64 base) := by rw [hb.cell hg]; exact hf
        obtain ⟨_, dg, _, d0, d1⟩ := Hin.out.dat k (by omega)
        have d02 : w2.cell? ⟨gs k, 0, none⟩ = some (.int .u8 ((k : Int) % 256)) := by rw [hb.cell dg, d0, lo_eq]
        have d12 : w2.cell? ⟨gs k, 1, none⟩ = some (.int .u8 ((k : Int) / 256)) := by rw [hb.cell dg, d1, hi_eq, show (k : Int) / 256 % 256 = (k : Int) / 256 by omega]
        have hr2 : w2.cell? ⟨b, off + k, none⟩ = some (.bool (R k)) := by rw [hb.cell (p := ⟨b, off + k, none⟩) (by show b < _; omega), Hin.out.bel.cell b0w]; exact HR.out k (by omega)
        have z1 : w.heap.size < w2.heap.size := by omega
        have z2 : g < w2.heap.size := by omega
        have z3 : gs k < w2.heap.size := by omega
        have z4 : b < w2.heap.size := by omega
        have HB : Hid (Below w1.heap.size w1 w2) := hb
        clear hb d0 d1 e0 e1 e2 hev hf
        go_wp2_with fail
        go_quiet (fail)
        go_wp2_with fail
        go_ret
        exact ⟨rfl, below_drewN ((Hin.out.bel.trans (HB.out.mono (by omega))).alloc (by omega) _) _⟩
      · by_cases hM : base + (k : Int) = 18446744073709551615
        · have hN : N < base := by have := HC.out; omega
          have he' : (base + (k : Int) == N) = false := beq_eq_false_iff_ne.2 he
          have hM' : (base + (k : Int) == 18446744073709551615) = true := beq_iff_eq.2 hM
          clear hM he
          go_wp2_with fail
          refine (Event.less w.heap.size g len cp base N _ hs1 hg hp hl hev hf hN).mono ?_
          rintro e w2 ⟨rfl, hb⟩
          have hz := hb.size
          have hev2 : w2.cell? ⟨w.heap.size, 4, none⟩ = some (.slice (some ⟨g, 0, none⟩) len cp) := by rw [hb.cell hs1]; exact hev
          have hf2 : w2.cell? ⟨g, 0, none⟩ = some (.int .u64 base) := by rw [hb.cell hg]; exact hf
          have z1 : w.heap.size < w2.heap.size := by omega
          have z2 : g < w2.heap.size := by omega
          have hnil : ∀ wx, (binOp .eql 27 (.slice none 0 0) (.slice none 0 0)).run Yba.prog wx = .ok (.bool true) wx := fun wx => by kernel_rfl
          have HB : Hid (Below w1.heap.size w1 w2) := hb
          clear hb hev hf
          unfold Event.none3
          go_wp2_with fail
          go_ret
          exact ⟨rfl, (Hin.out.bel.trans (HB.out.mono (by omega))).alloc (by omega) _⟩
        · have he' : (base + (k : Int) == N) = false := beq_eq_false_iff_ne.2 he
          have hM' : base + (k : Int) < 18446744073709551615 := by omega
          clear hM he
          go_wp2_with fail
          go_round
          case rel => exact ⟨k + 1, by omega, by go_num, rfl, rfl, by go_num, by omega, by have := HC.out; have := beq_eq_false_iff_ne.1 he'; omega⟩
          case measure => simp [intOf]; omega
    · by_cases hN : N < base
      · go_wp2_with fail
        refine (Event.less w.heap.size g len cp base N _ hs1 hg hp hl hev hf hN).mono ?_
        rintro e w2 ⟨rfl, hb⟩
        have hz := hb.size
        have hev2 : w2.cell? ⟨w.heap.size, 4, none⟩ = some (.slice (some ⟨g, 0, none⟩) len cp) := by rw [hb.cell hs1]; exact hev
        have hf2 : w2.cell? ⟨g, 0, none⟩ = some (.int .u64 base) := by rw [hb.cell hg]; exact hf
        have z1 : w.heap.size < w2.heap.size := by omega
        have z2 : g < w2.heap.size := by omega
        have hnil : ∀ wx, (binOp .eql 27 (.slice none 0 0) (.slice none 0 0)).run Yba.prog wx = .ok (.bool true) wx := fun wx => by kernel_rfl
        have HB : Hid (Below w1.heap.size w1 w2) := hb
        clear hb hev hf
        unfold Event.none3
        go_wp2_with fail
        go_ret
        exact ⟨rfl, (Hin.out.bel.trans (HB.out.mono (by omega))).alloc (by omega) _⟩
      · have hN2 : (len : Int) ≤ N - base := by have := HC.out; omega
        have hN : base ≤ N := by omega
        go_wp2_with fail
        refine (Event.past w.heap.size g len cp base N _ hs1 hg hp hl b0 b1 n1 hev hf hN hN2).mono ?_
        rintro e w2 ⟨rfl, hb⟩
        have hz := hb.size
        have hev2 : w2.cell? ⟨w.heap.size, 4, none⟩ = some (.slice (some ⟨g, 0, none⟩) len cp) := by rw [hb.cell hs1]; exact hev
        have hf2 : w2.cell? ⟨g, 0, none⟩ = some (.int .u64 base) := by rw [hb.cell hg]; exact hf
        have z1 : w.heap.size < w2.heap.size := by omega
        have z2 : g < w2.heap.size := by omega
        have hnil : ∀ wx, (binOp .eql 27 (.slice none 0 0) (.slice none 0 0)).run Yba.prog wx = .ok (.bool true) wx := fun wx => by kernel_rfl
        have HB : Hid (Below w1.heap.size w1 w2) := hb
        clear hb hev hf
        unfold Event.none3
        go_wp2_with fail
        go_ret
        exact ⟨rfl, (Hin.out.bel.trans (HB.out.mono (by omega))).alloc (by omega) _⟩
end Go.Proofs.Ybulkcttm.Kept
