/-
  THE CONTRACT OF sharedBits (22).
-/
import Derived.Test.YbulkcuccPlain
import Derived.Test.YbulkcuccDist
import Derived.ChangeKeysEq
namespace Go.Proofs.Ybulkcucc
open Go.RowKit
set_option linter.unusedVariables false

theorem run_index_id (z : Nat → Int) (k : Nat) (hk : (k : Int) < 20) (w : World) : (Instr.index 25 (.agg (ids z).toArray) (.int .i64 k)).run Yba.prog w = .ok (.int .u8 (z k)) w := by
  have h1 : (part 5 (ids z).toArray k).run Yba.prog w = .ok (.int .u8 (z k)) w := run_part_plain (P := Yba.prog) w (e := 5) (by kernel_rfl) (by simpa using ids_get z k (by omega))
  have h2 : (Go.sizeOf 5).run Yba.prog w = .ok 1 w := by kernel_rfl
  have h0 : (0 : Int) ≤ k := Int.natCast_nonneg _
  have h3 : ¬ 20 ≤ k := by omega
  simp [Instr.index, asIntOf, run_underlying Yba.underlying25, h0, h1, h2]
  intro h; exact absurd h h3

theorem below_setRow {B : Nat} {a w : World} {g : Nat} (h : Below B a w) (hg : B ≤ g) (cs : Array Value) : Below B a (w.setRow g cs) :=
  ⟨h.os, h.tape, h.output, by rw [setRow_size]; exact h.size, fun j hj => by rw [setRow_other _ _ _ _ (by omega)]; exact h.block j hj⟩

set_option maxRecDepth 100000 in
set_option maxHeartbeats 800000 in
theorem sharedBits (x y : Nat → Int) (hx : Bytes x) (hy : Bytes y) (w : World) :
    Calls Yba.prog 22 #[idV x, idV y] w fun e w' => ∃ s : Nat, e = .returned (.int .i64 s) ∧ First x y s ∧ Below w.heap.size w w' := by
  unfold idV
  go_enter Yba.func22, Yba.ntmps22
  go_wp2_with (first | (refine wpList_load_row rfl 25 _ rfl w.heap.size rfl 25 (ids x).toArray (0, 0) _ (heap_alloc2_old w _ _) Yba.underlying25 rfl (by rw [ids_size]; exact info25) ?_) | (refine wpList_load_row rfl 25 _ rfl (w.heap.size + 1) rfl 25 (ids y).toArray (0, 0) _ (heap_alloc2_new w _ _) Yba.underlying25 rfl (by rw [ids_size]; exact info25) ?_))
  refine (distance x y _).mono ?_
  rintro e w1 ⟨z, rfl, hz, hb⟩
  have hsz := hb.size
  simp only [World.size_alloc] at hsz
  have HB : Hid (Below w.heap.size w w1 ∧ ∀ j, j < 20 → z j = bits .xor .u8 (x j) (y j)) := ⟨(((Below.refl _ _).alloc (Nat.le_refl _) _).alloc (by simp) _).trans (hb.mono (by simp; omega)), hz⟩
  clear hb hz
  unfold idV
  go_wp2_with (first | (refine wpList_store_row rfl 25 _ _ rfl w1.heap.size (ids z).toArray rfl rfl 25 (ids zid).toArray (heap_alloc_new w1 _) (by rw [ids_size]; exact info25) (by simp [ids]) (ids_one z) ?_) | (refine wpList_load_row rfl 25 _ rfl w1.heap.size rfl 25 (ids z).toArray (0, 0) _ (setRow_heap _ _ _ _ _ _ (heap_alloc_new w1 _)) Yba.underlying25 rfl (by rw [ids_size]; exact info25) ?_))
  go_loopw [12] (fun i wr => ∃ k : Nat, k ≤ 20 ∧ i = .int .i64 k ∧ Below w.heap.size w wr ∧ ∀ j, j < k → ((x j).toNat ^^^ (y j).toNat) = 0) (fun i _ => 20 - (intOf i).toNat)
  case atStart => exact ⟨0, by omega, rfl, below_setRow (HB.out.1.alloc (by omega) _) (by omega) _, fun j hj => by omega⟩
  case round =>
    obtain ⟨k, hk, rfl, hbel, hall⟩ := hrel
    have HA : Hid (Below w.heap.size w wr ∧ ∀ j, j < k → ((x j).toNat ^^^ (y j).toNat) = 0) := ⟨hbel, hall⟩
    clear hbel hall
    by_cases hlt : (k : Int) < 20
    · have hix := run_index_id z k hlt
      have hlt' : k < 20 := by omega
      have hzk := HB.out.2 k hlt'
      rw [xor_eq x y k hx hy hlt'] at hzk
      have hz256 := xor_lt x y k hx hy hlt'
      have HX := And.intro hx hy
      have HXY : Hid (Bytes x ∧ Bytes y) := HX
      clear HX
      generalize hn : (x k).toNat ^^^ (y k).toNat = n at hzk hz256
      have HN : Hid ((x k).toNat ^^^ (y k).toNat = n) := hn
      clear hn
      rw [hzk] at hix
      by_cases e : n = 0
      · subst e
        clear hzk
        go_wp2_with fail
        go_roundw
        case rel => exact ⟨k + 1, by omega, by go_num, HA.out.1, fun j hj => by
          by_cases e : j = k
          · subst e; exact HN.out
          · exact HA.out.2 j (by omega)⟩
        case measure => simp [intOf]; omega
      · have hne : ((n : Int) != 0) = true := by rw [bne_iff_ne]; omega
        have hbl := bl_le n hz256
        clear hzk
        go_wp2_with fail
        refine (lz8 n hz256 _).mono ?_
        rintro e w' ⟨rfl, rfl⟩
        go_wp2_with fail
        go_ret
        refine ⟨8 * k + (8 - bl n), ret_int (by omega), ?_, HA.out.1⟩
        have := first_at x y k HXY.out.1 HXY.out.2 hlt' HA.out.2 (by rw [HN.out]; exact e)
        rw [HN.out] at this
        exact this
    · have e : k = 20 := by omega
      subst e
      go_wp2_with fail
      go_ret
      exact ⟨160, rfl, first_none x y hx hy HA.out.2, HA.out.1⟩
end Go.Proofs.Ybulkcucc
