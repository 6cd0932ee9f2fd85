/-
  THE CONTRACT OF zzs4770abuild (5).
-/
import Derived.Test.YbulkcttmInv
import Derived.WalkSpells
import Derived.StillTactics
import Derived.Laws.Pointers
import Derived.Deep.RegionLaw
import Derived.LoopTactic
namespace Go.Proofs.Ybulkcttm.Build
open Go.RowKit

theorem info31 : (Yba.prog.info? 31).map (fun i => (i.zero, i.size, i.bytes)) = some (some (.agg #[.int .u64 0, .slice none 0 0, .bool false]), 3, 40) := by kernel_rfl

set_option maxRecDepth 100000 in
set_option maxHeartbeats 3200000 in
theorem build (base : Int) (b off len cap : Nat) (R : Nat → Bool) (w : World) (hl : len ≤ 1024)
    (hR : ∀ i, i < len → w.cell? ⟨b, off + i, none⟩ = some (.bool (R i))) :
    Calls Yba.prog 5 #[.int .u64 base, .slice (some ⟨b, off, none⟩) len cap] w fun e w' => e = .returned (.pointer (some ⟨w.heap.size, 0, none⟩)) ∧ ∃ v gs, Inv w base R len w' v gs := by
  obtain ⟨i0, hi0, hz0, hz1, hz2⟩ := info_parts info31
  have HR : Hid (∀ i, i < len → w.cell? ⟨b, off + i, none⟩ = some (.bool (R i))) := hR
  clear hR
  go_enter Yba.func5, Yba.ntmps5
  go_wp2
  go_loopw [6] (fun i wr => ∃ (k : Nat) (v : Value) (gs : Nat → Nat), k ≤ len ∧ i = .int .i64 k ∧ Inv w base R k wr v gs) (fun i _ => len - (intOf i).toNat)
  case atStart => exact ⟨0, _, _, Nat.zero_le _, rfl, Inv.start w base R⟩
  case round =>
    obtain ⟨k, v, gs, hk, rfl, hin⟩ := hrel
    by_cases hlt : k < len
    · have c1 := hin.ev
      have f1 := hin.fz
      have s1 := hin.sz
      have c0 := HR.out k hlt
      have b0 : b < w.heap.size := World.block_lt_of_cell? w _ c0
      have b1 : b < wr.heap.size := by omega
      have c2 : wr.cell? ⟨b, off + k, none⟩ = some (.bool (R k)) := by rw [hin.bel.cell b0]; exact c0
      clear c0
      have k0 : (0 : Int) ≤ (k : Int) := Int.natCast_nonneg _
      have k1 : (k : Int) < (len : Int) := by omega
      have Hin : Hid (Inv w base R k wr v gs) := hin
      clear hin
      go_wp2
      go_region_law ((refine step_append_lies _ (by rfl) _ _ _ (by rfl) (w.heap.size + 1) 31 i0 _ 3 40 Yba.underlying34 hi0 hz0 hz1 hz2 rfl (by omega) v k (cellsTo base R gs k) (by rfl) (show (At wr base R k).ownsRow _ _ _ _ _ _ from (Hin.out.own.alloc _).alloc _) ⟨wr.heap.size + 1, 0, none⟩ 1 1 (evCells base R wr.heap.size k) (by rfl) (by rfl) (show ∀ j u, (evCells base R wr.heap.size k)[j]? = some u → (At wr base R k).cell? _ = some u from World.news_of_block (At_elem wr base R k)) (by simp [evCells, Value.oneCell']) (by omega) (by unfold maxLen; omega) (by omega) (by simp; omega) (wr.heap.size + 1 + 1) (by simp) ?_; intro g cp w1 hown1 hgrow hat hlt1; have q1 := Hin.out.ev1 hgrow; have q2 := Hin.out.fz1 hgrow))
      all_goals
        go_wp2
        go_roundw
        case rel => exact ⟨k + 1, _, _, by omega, by go_num, Hin.out.next hgrow hown1 hat⟩
        case measure => simp [intOf]; omega
    · have e : k = len := by omega
      subst e
      have Hin : Hid (Inv w base R k wr v gs) := hin
      clear hin
      go_wp2
      go_ret
      exact ⟨rfl, v, gs, Hin.out⟩

set_option maxRecDepth 100000 in
set_option maxHeartbeats 800000 in
theorem build0 (base : Int) (a : Option Addr) (cap : Nat) (R : Nat → Bool) (w : World) :
    Calls Yba.prog 5 #[.int .u64 base, .slice a 0 cap] w fun e w' => e = .returned (.pointer (some ⟨w.heap.size, 0, none⟩)) ∧ ∃ v gs, Inv w base R 0 w' v gs := by
  have H : Hid (Inv w base R 0 (w.alloc stream0) (.slice none 0 0) (fun _ => 0)) := Inv.start w base R
  go_enter Yba.func5, Yba.ntmps5
  go_wp2
  go_loop [6] (fun i => i = .int .i64 0) (fun _ => 0)
  case atStart => rfl
  case round =>
    subst hrel
    go_wp2
    go_ret
    exact ⟨rfl, _, _, H.out⟩
end Go.Proofs.Ybulkcttm.Build
