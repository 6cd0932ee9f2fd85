/-
  THE LAW AT TWO SMALL INPUTS: a slice of more than 1024 items; a slice of none.
-/
import Derived.Test.YbulkcuccLaw
namespace Go.Proofs.Ybulkcucc
open Go.RowKit
set_option linter.unusedVariables false
set_option linter.unusedSimpArgs false

theorem long (s : Nat → Int) (nb : Int) (a : Option Addr) (len cap : Nat) (pick qpos qlow qport : Int) (w : World) (hl : 1024 < (len : Int)) :
    Calls Yba.prog 3 #[idV s, .int .u8 nb, .slice a len cap, .int .u16 pick, .int .u8 qpos, .int .u8 qlow, .int .u16 qport] w fun e w' => e = .returned (.bool true) ∧ Below w.heap.size w w' := by
  unfold idV
  go_enter Yba.func3, Yba.ntmps3
  go_wp2_with fail
  go_ret
  exact ⟨rfl, (Below.refl _ _).alloc (Nat.le_refl _) _⟩

set_option maxRecDepth 100000 in
set_option maxHeartbeats 4000000 in
theorem zero (s : Nat → Int) (nb : Int) (ad : Option Addr) (cap : Nat) (pick qpos qlow qport : Int) (n : Nat) (w : World) (hs : Bytes s) (hn : 1 + nb % 12 = (n : Int)) (n0 : 1 ≤ n) (n1 : n ≤ 12) (b0 : 0 ≤ nb) (b1 : nb ≤ 255) (pk0 : 0 ≤ pick) (pk1 : pick ≤ 65535) (qp0 : 0 ≤ qpos) (qp1 : qpos ≤ 255) (ql0 : 0 ≤ qlow) (ql1 : qlow ≤ 255) :
    Calls Yba.prog 3 #[idV s, .int .u8 nb, .slice ad 0 cap, .int .u16 pick, .int .u8 qpos, .int .u8 qlow, .int .u16 qport] w fun e w' => e = .returned (.bool true) ∧ Below w.heap.size w w' := by
  have HS : Hid (Bytes s) := hs
  clear hs
  unfold idV
  have hmk := make12 n n0 n1
  have r1 : (w.alloc (.cells (ids s).toArray 22)).rangeAt w.heap.size 0 (ids s) := range_block (heap_alloc_new w _)
  go_enter Yba.func3, Yba.ntmps3
  go_wp2_with fail
  go_cut [16] from 34 to 37 (fun t W => ∃ T Bk, t = .pointer (some ⟨T, 0, none⟩) ∧ Made w W s n T Bk)
  case first =>
    refine E_region (fun i => i == 5) (fun w' => w'.rangeAt w.heap.size 0 (ids s)) (by kernel_rfl) ?_
    have r1d : (w.alloc (.cells (ids s).toArray 22)).drew.rangeAt w.heap.size 0 (ids s) := r1
    refine E_load (i := 0) (d := some 34) rfl (by kernel_rfl) (by kernel_rfl) (by kernel_rfl) (by kernel_rfl) rfl rfl 22 _ rfl w.heap.size 0 rfl (ids s) _ (fun _ h => h) Yba.underlying22 rfl (info22l s) r1d ?_
    simp only [Act.put, List.setIfInBounds_toArray, List.set_cons_zero, List.set_cons_succ]
    refine E_take (i := 1) (d := some 35) (v := .int .i64 n) rfl (by kernel_rfl) (by kernel_rfl) (by kernel_rfl) (by kernel_rfl) rfl rfl (fun w' _ => rfl) r1d ?_
    simp only [Act.put, List.setIfInBounds_toArray, List.set_cons_zero, List.set_cons_succ]
    refine E_two (i := 2) (k := 4) (by kernel_rfl) rfl rfl rfl rfl ?_ ?_
    · refine wp_value (d := some 36) (v := .slice (some ⟨w.heap.size + 1, 0, none⟩) n n) (w' := ((w.alloc (.cells (ids s).toArray 22)).alloc (.cells (zbs n).toArray 53)).drew) rfl (by go_simp) ?_
      have r2 : ((w.alloc (.cells (ids s).toArray 22)).alloc (.cells (zbs n).toArray 53)).drew.rangeAt w.heap.size 0 (ids s) := World.rangeAt_alloc r1 _
      refine ⟨fun _ => r2, ?_⟩
      simp only [Act.put, List.setIfInBounds_toArray, List.set_cons_zero, List.set_cons_succ]
      refine E_take (i := 3) (d := some 37) (v := .agg (tabC s (.slice (some ⟨w.heap.size + 1, 0, none⟩) n n)).toArray) rfl (by kernel_rfl) (by kernel_rfl) (by kernel_rfl) (by kernel_rfl) rfl rfl (fun w' _ => exec_build rfl (by kernel_rfl) w') r2 ?_
      simp only [Act.put, List.setIfInBounds_toArray, List.set_cons_zero, List.set_cons_succ]
      refine E_one (i := 4) (by kernel_rfl) rfl rfl ?_
      refine wp_value (d := some 16) (v := .pointer (some ⟨w.heap.size + 1 + 1, 0, none⟩)) (w' := (((w.alloc (.cells (ids s).toArray 22)).alloc (.cells (zbs n).toArray 53)).alloc (.cells (tabC zid (.slice none 0 0)).toArray 30)).drew) rfl (by go_simp; rfl) ?_
      refine ⟨fun _ => World.rangeAt_alloc (w := (w.alloc (.cells (ids s).toArray 22)).alloc (.cells (zbs n).toArray 53)) r2 _, ?_⟩
      simp only [Act.put, List.setIfInBounds_toArray, List.set_cons_zero, List.set_cons_succ]
      refine E_one (i := 5) (by kernel_rfl) rfl rfl ?_
      refine wp_store rfl 30 _ _ rfl (w.heap.size + 1 + 1) 0 (tabC s (.slice (some ⟨w.heap.size + 1, 0, none⟩) n n)) rfl rfl (there_block (C := (tabC zid (.slice none 0 0)).toArray) (t := 30) (heap3_2 w _ _ _) _ (by simp [tabC_length])) (info30l _ _) (tabC_cell s _ _ _) ?_
      refine ⟨(fun h => by cases h), E_done (by kernel_rfl) (NoPanic.normal ?_)⟩
      go_wp2_with fail
      go_meet
      case rel => exact ⟨_, _, rfl, Made.one w s n⟩
    · refine wp_value (d := some 16) (v := .pointer (some ⟨w.heap.size + 1, 0, none⟩)) (w' := ((w.alloc (.cells (ids s).toArray 22)).alloc (.cells (tabC zid (.slice none 0 0)).toArray 30)).drew) rfl (by go_simp; rfl) ?_
      have r2 : ((w.alloc (.cells (ids s).toArray 22)).alloc (.cells (tabC zid (.slice none 0 0)).toArray 30)).drew.rangeAt w.heap.size 0 (ids s) := World.rangeAt_alloc r1 _
      refine ⟨fun _ => r2, ?_⟩
      simp only [Act.put, List.setIfInBounds_toArray, List.set_cons_zero, List.set_cons_succ]
      refine E_one (i := 2) (by kernel_rfl) rfl rfl ?_
      refine wp_value (d := some 36) (v := .slice (some ⟨w.heap.size + 1 + 1, 0, none⟩) n n) (w' := (((w.alloc (.cells (ids s).toArray 22)).alloc (.cells (tabC zid (.slice none 0 0)).toArray 30)).alloc (.cells (zbs n).toArray 53)).drew) rfl (by go_simp) ?_
      have r3 : (((w.alloc (.cells (ids s).toArray 22)).alloc (.cells (tabC zid (.slice none 0 0)).toArray 30)).alloc (.cells (zbs n).toArray 53)).drew.rangeAt w.heap.size 0 (ids s) := World.rangeAt_alloc (w := (w.alloc (.cells (ids s).toArray 22)).alloc (.cells (tabC zid (.slice none 0 0)).toArray 30)) r2 _
      refine ⟨fun _ => r3, ?_⟩
      simp only [Act.put, List.setIfInBounds_toArray, List.set_cons_zero, List.set_cons_succ]
      refine E_take (i := 3) (d := some 37) (v := .agg (tabC s (.slice (some ⟨w.heap.size + 1 + 1, 0, none⟩) n n)).toArray) rfl (by kernel_rfl) (by kernel_rfl) (by kernel_rfl) (by kernel_rfl) rfl rfl (fun w' _ => exec_build rfl (by kernel_rfl) w') r3 ?_
      simp only [Act.put, List.setIfInBounds_toArray, List.set_cons_zero, List.set_cons_succ]
      refine E_one (i := 5) (by kernel_rfl) rfl rfl ?_
      refine wp_store rfl 30 _ _ rfl (w.heap.size + 1) 0 (tabC s (.slice (some ⟨w.heap.size + 1 + 1, 0, none⟩) n n)) rfl rfl (there_block (C := (tabC zid (.slice none 0 0)).toArray) (t := 30) (heap3_1 w _ _ _) _ (by simp [tabC_length])) (info30l _ _) (tabC_cell s _ _ _) ?_
      refine ⟨(fun h => by cases h), E_done (by kernel_rfl) (NoPanic.normal ?_)⟩
      go_wp2_with fail
      go_meet
      case rel => exact ⟨_, _, rfl, Made.two w s n⟩
  case rest =>
    obtain ⟨T, Bk, rfl, hM⟩ := hcut
    have HM : Hid (Made w wc s n T Bk) := hM
    clear hM hmk r1
    go_wp2_with fail
    go_loopg [40] 0 (fun r t wr => ∃ V E, t = .int .i64 0 ∧ LInv w s n T Bk 0 wr V E)
    case atStart => exact ⟨_, _, rfl, LInv.start HM.out⟩
    case round =>
      obtain ⟨V, E, rfl, hin⟩ := hrel
      have HL : Hid (LInv w s n T Bk 0 wr V E) := hin
      clear hin
      have HLw : Hid (LInv w s n T Bk 0 (wr.alloc (.cells (con zid 0).toArray 46)) V E) := HL.out.below ((Below.refl _ _).alloc (Nat.le_refl _) _)
      have HF : Hid (Fresh (wr.alloc (.cells (con zid 0).toArray 46)) wr.heap.size) := alloc46 wr
      have HB0 : Hid (Below wr.heap.size wr (wr.alloc (.cells (con zid 0).toArray 46))) := (Below.refl _ _).alloc (Nat.le_refl _) _
      have HZ : Hid ((wr.alloc (.cells (con zid 0).toArray 46)).heap.size = wr.heap.size + 1) := (by simp : (wr.alloc (.cells (con zid 0).toArray 46)).heap.size = wr.heap.size + 1)
      go_upto_region 15 with fail
      show Code.wp _ _ _ _ (wr.alloc (.cells (con zid 0).toArray 46))
      generalize wr.alloc (.cells (con zid 0).toArray 46) = W0 at HLw HF HB0 HZ ⊢
      have hsw := HL.out.sz
      go_upto_if 93 with fail
      go_cut [22] from 86 (fun t W => ∃ y q, C8 wr W wr.heap.size y q)
      case first =>
        have qs : W0.rangeAt w.heap.size 0 (ids s) := HLw.out.self
        go_wp2_with (first | (refine wpList_load_mid rfl 22 _ rfl w.heap.size 0 rfl (ids s) _ qs Yba.underlying22 rfl (info22l s) ?_) | (go_at_call 6; refine (mkId s qpos qlow HS.out qp0 qp1 ql0 ql1 _).mono ?_; rintro e w1 ⟨y, rfl, by1, hb1⟩) | (go_at_call 7; refine (addrPortFrom qport _).mono ?_; rintro e w2 ⟨rfl, hb2⟩) | (refine wpList_run rfl (exec_build (t := 46) (cs := con y qport) rfl (by kernel_rfl) _) ?_) | (refine wpList_store_mid rfl 46 _ _ rfl wr.heap.size 0 (con y qport).toArray rfl rfl ((HF.out.below (hb1.trans (hb2.mono hb1.size)) HF.out.lt).there y qport) (info46l y qport) (all_oneCell_toArray (con_cell y _)) ?_))
        go_meet
        case rel => exact ⟨y, qport, C8.mk' (HB0.out.trans ((hb1.trans (hb2.mono hb1.size)).mono (by have := HZ.out; omega))) (HF.out.below (hb1.trans (hb2.mono hb1.size)) HF.out.lt) (Nat.le_refl _) by1⟩
      case rest =>
        obtain ⟨y, q, hC⟩ := hcut
        have HC : Hid (C8 wr wc wr.heap.size y q) := hC
        clear hC
        have HLc : Hid (LInv w s n T Bk 0 wc V E) := HL.out.below HC.out.bel
        have hbk := bk_lt y s n n0
        have hb0 : (0 : Int) ≤ ((bk y s n : Nat) : Int) := Int.natCast_nonneg _
        have hb1 : ((bk y s n : Nat) : Int) < (n : Int) := by omega
        have hcnt := HLc.out.cnt _ hbk
        have tl := HLc.out.tlt
        have rc := HC.out.con
        have HRc : Hid (wc.rangeAt wr.heap.size 0 (con y q)) := rc
        have hE : (E (bk y s n)).length = 0 := by omega
        obtain ⟨a, c, hv⟩ := row_zero (by have h := HLc.out.own _ hbk; rw [hE] at h; exact h)
        have HV : Hid (wc.cell? ⟨Bk, bk y s n * 5, none⟩ = some (.slice a 0 c)) := (HLc.out.ev _ hbk).trans (congrArg some hv)
        clear hv hE hcnt
        go_upto_region 19 with fail
        go_cut [23] from 86 (fun t W => t = .pointer none ∧ Below wc.heap.size wc W)
        case first =>
          go_wp2_with (first | (refine wpList_load_mid rfl 46 _ rfl wr.heap.size 0 rfl (con y q) _ rc Yba.underlying46 rfl (info46l y q) ?_) | (go_at_call 9; refine (entry0 T Bk n c a s y q HS.out HC.out.by_ _ (IdAt.of_range HLc.out.tid) HLc.out.c20 n0 n1 HV.out).mono ?_; rintro e w' ⟨rfl, hb9⟩))
          go_meet
          case rel => exact ⟨rfl, hb9⟩
        case rest =>
          obtain ⟨rfl, hb9⟩ := hcut
          have HL3 : Hid (LInv w s n T Bk 0 wc V E) := HLc.out.below hb9
          have q1 := con_ids (rangeAt_below hb9 (con_lt HRc.out) HRc.out)
          have q2 := HL3.out.tid
          have HV3 : Hid (wc.cell? ⟨Bk, bk y s n * 5, none⟩ = some (.slice a 0 c)) := (hb9.cell (p := ⟨Bk, bk y s n * 5, none⟩) tl.2.1).trans HV.out
          clear hb9 rc
          go_upto_region 20 with fail
          go_cut [24] from 86 (fun t W => t = .int .i64 (bk y s n : Nat) ∧ Below wc.heap.size wc W)
          case first =>
            go_wp2_with (first | (refine wpList_load_mid rfl 25 _ rfl wr.heap.size 0 rfl (ids y) _ q1 Yba.underlying25 rfl (info25l y) ?_) | (refine wpList_load_mid rfl 25 _ rfl T 0 rfl (ids s) _ q2 Yba.underlying25 rfl (info25l s) ?_) | (go_at_call 8; refine (ashared' y s _).mono ?_; rintro e w' ⟨rfl, hb8⟩))
            all_goals
              go_meet
              case rel => exact ⟨ret9 (by unfold bk; omega), hb8⟩
          case rest =>
            obtain ⟨rfl, hb8⟩ := hcut
            have HL4 : Hid (LInv w s n T Bk 0 wc V E) := HL3.out.below hb8
            have h20 := HL4.out.c20
            have hvc : wc.cell? ⟨Bk, bk y s n * 5, none⟩ = some (.slice a 0 c) := (hb8.cell (p := ⟨Bk, bk y s n * 5, none⟩) HL3.out.tlt.2.1).trans HV3.out
            clear hb8 q1 q2
            go_wp2_with fail
            go_loopg [26] 0 (fun r t W => t = .int .i64 0 ∧ W = wc)
            case atStart => exact ⟨rfl, rfl⟩
            case round =>
              obtain ⟨rfl, rfl⟩ := hrel
              go_wp2_with fail
              go_ret
              exact ⟨rfl, HL4.out.bel⟩
end Go.Proofs.Ybulkcucc
