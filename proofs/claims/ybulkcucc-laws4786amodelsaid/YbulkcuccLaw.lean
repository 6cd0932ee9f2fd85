/-
  THE LAW ITSELF (function 3), at a slice of at most 1024 items that lies in memory.
-/
import Derived.Test.YbulkcuccC8
import Derived.Deep.CutRange
import Derived.Deep.LoopGhost
import Derived.Deep.DeepCutAuto
import Derived.Outline
import Derived.LaidEqlPtr
namespace Go.Proofs.Ybulkcucc
open Go.RowKit
set_option linter.unusedVariables false
set_option linter.unusedSimpArgs false

/-- An item of the slice that came in. -/
structure Item (w : World) (ib io i : Nat) (pos low port slot : Int) (mis : Bool) : Prop where
  c0 : w.cell? ⟨ib, io + i * 5, none⟩ = some (.int .u8 pos)
  c1 : w.cell? ⟨ib, io + i * 5 + 1, none⟩ = some (.int .u8 low)
  c2 : w.cell? ⟨ib, io + i * 5 + 2, none⟩ = some (.int .u16 port)
  c3 : w.cell? ⟨ib, io + i * 5 + 3, none⟩ = some (.int .u8 slot)
  c4 : w.cell? ⟨ib, io + i * 5 + 4, none⟩ = some (.bool mis)
  p0 : 0 ≤ pos ∧ pos ≤ 255
  l0 : 0 ≤ low ∧ low ≤ 255
  s0 : 0 ≤ slot ∧ slot ≤ 255

/-- What 'entry' hands back. -/
def Got (g L : Nat) (X : Nat → Nat → Int) (Pp : Nat → Int) (y : Nat → Int) (q : Int) (t : Value) : Prop :=
  (∃ k : Nat, k < L ∧ t = .pointer (some ⟨g, k * 31, none⟩) ∧ hit (X k) (Pp k) y q = true ∧ NoHit X Pp y q k) ∨ (t = .pointer none ∧ NoHit X Pp y q L)
theorem got (T Bk n g c L : Nat) (X : Nat → Nat → Int) (Pp : Nat → Int) (s y : Nat → Int) (q : Int) (hs : Bytes s) (hy : Bytes y) (w : World) (hL : L ≤ 1024)
    (hS : IdAt w T 0 s) (hb : w.cell? ⟨T, 20, none⟩ = some (.slice (some ⟨Bk, 0, none⟩) n n)) (n0 : 1 ≤ n) (n1 : n ≤ 12) (hv : w.cell? ⟨Bk, bk y s n * 5, none⟩ = some (.slice (some ⟨g, 0, none⟩) L c))
    (hrow : ∀ k, k < L → w.rangeAt g (k * 31) (ent (X k) (Pp k))) :
    Calls Yba.prog 9 #[.pointer (some ⟨T, 0, none⟩), .agg (con y q).toArray] w fun e w' => ∃ v, e = .returned v ∧ Got g L X Pp y q v ∧ Below w.heap.size w w' :=
  (entry T Bk n g c L X Pp s y q hs hy w hL hS hb n0 n1 hv hrow).mono fun e w' ⟨h, hb⟩ => by
    rcases h with ⟨k, hk, rfl, h1, h2⟩ | ⟨rfl, h2⟩
    · exact ⟨_, rfl, .inl ⟨k, hk, rfl, h1, h2⟩, hb⟩
    · exact ⟨_, rfl, .inr ⟨rfl, h2⟩, hb⟩
theorem Got.at {g L : Nat} {X : Nat → Nat → Int} {Pp : Nat → Int} {y : Nat → Int} {q : Int} {t : Value} (h : Got g L X Pp y q t) {j : Nat} (hj : j < L) (hh : hit (X j) (Pp j) y q = true) (hn : NoHit X Pp y q j) : t = .pointer (some ⟨g, j * 31, none⟩) := by
  rcases h with ⟨k, hk, rfl, h1, h2⟩ | ⟨_, h2⟩
  · have e : k = j := by
      rcases Nat.lt_trichotomy k j with h | h | h
      · rw [hn k h] at h1; cases h1
      · exact h
      · rw [h2 j h] at hh; cases hh
    rw [e]
  · rw [h2 j hj] at hh; cases hh
theorem Got.none {g L : Nat} {X : Nat → Nat → Int} {Pp : Nat → Int} {y : Nat → Int} {q : Int} {t : Value} (h : Got g L X Pp y q t) (hn : NoHit X Pp y q L) : t = .pointer none := by
  rcases h with ⟨k, hk, rfl, h1, h2⟩ | ⟨h1, h2⟩
  · rw [hn k hk] at h1; cases h1
  · exact h1
theorem noHit_next {X : Nat → Nat → Int} {Pp : Nat → Int} {y : Nat → Int} {q : Int} {j : Nat} (hn : NoHit X Pp y q j) (h : hit (X j) (Pp j) y q = false) : NoHit X Pp y q (j + 1) := fun i hi => by
  by_cases e : i = j
  · subst e; exact h
  · exact hn i (by omega)
theorem con_adrs {w : World} {b o : Nat} {x : Nat → Int} {p : Int} (h : w.rangeAt b o (con x p)) : w.rangeAt b (o + 20) (adr p) := fun j v hv => by
  have := h (20 + j) v (by
    unfold con
    rw [List.getElem?_append_right (by rw [ids_length]; omega), ids_length, show 20 + j - 20 = j by omega]
    exact hv)
  rwa [show o + (20 + j) = o + 20 + j by omega] at this
theorem exec_eql {P : Program} {o : Oper} {a : Act} {t t' : TypeId} {x y : Operand} {xs ys : Array Value} {v : Value} {w : World} (ho : o.op = .binOp .eql t x y t') (hx : a.eval x = .agg xs) (hy : a.eval y = .agg ys)
    (hg : P.eqGuardType P.depth t = false) (h : (binOp .eql t (.agg xs) (.agg ys)).run P w = .ok v w) : (execOp a.eval o).run P w = .ok (.value v) w := by
  unfold execOp
  simp only [ho, hx, hy, Sem.run_bind, run_eqGuard_agg w .eql t x y xs ys hg, Result.andThen_ok, h, Sem.run_pure]
theorem hid_intro {p : Prop} (h : p) : Hid p := h
/-- What the type of an entry is laid out as. -/
theorem lay55 : ∃ i z, Yba.prog.info? 55 = some i ∧ i.zero = some z ∧ i.size = 31 ∧ i.bytes = 112 ∧ z.cells.size = 31 :=
  ⟨(Yba.prog.info? 55).getD default, ((Yba.prog.info? 55).getD default).zero.getD undef, by kernel_rfl, by kernel_rfl, by kernel_rfl, by kernel_rfl, by kernel_rfl⟩
/-- 'append' of one entry. -/
theorem append55 {o : Oper} {a : Act} {w : World} {K : Act → World → Prop} {Q : Exit → Act → World → Prop} (s x : Operand) (ho : o.op = .call { callee := .builtin .append, args := #[s, x], argTypes := #[48, 48] })
    (base : Nat) (v : Value) (n : Nat) (xs : List Value) (hs : a.eval s = v) (hown : w.ownsRow base 55 31 v n xs) (ad : Addr) (news : List Value) (hx : a.eval x = .slice (some ad) 1 1) (hl : news.length = 31)
    (hnews : ∀ j u, news[j]? = some u → w.cell? (ad.add j) = some u) (h1 : ∀ u ∈ news, u.oneCell' = true) (hn : n ≤ 1024) (hbase : base ≤ w.heap.size) (H : Nat) (hH : w.heap.size = H)
    (h : ∀ g cap w', w'.ownsRow base 55 31 (.slice (some ⟨g, 0, none⟩) (n + 1) cap) (n + 1) (xs ++ news) → w.grownBy w' v.ownBlock → (v.ownBlock = some g ∨ g = H) → g < w'.heap.size → K (a.put o.dst (.slice (some ⟨g, 0, none⟩) (n + 1) cap)) w') : o.wp Yba.prog a w K Q := by
  obtain ⟨i, z, l1, l2, l3, l4, l5⟩ := lay55
  exact wp_append_lies w s x 48 ho base 55 i z 31 112 Yba.underlying48 l1 l2 l3 l4 l5 (by omega) v n xs hs hown ad 1 1 news hx (by omega) hnews h1 (by omega) (by unfold maxLen; omega) (by omega) hbase H hH h
/-- A pointer to an entry is itself. -/
theorem same55 (b o : Nat) (w : World) : (binOp .eql 56 (.pointer (some ⟨b, o, none⟩)) (.pointer (some ⟨b, o, none⟩))).run Yba.prog w = .ok (.bool true) w := by
  obtain ⟨i, z, l1, _⟩ := lay55
  exact run_eql_ptr_same w _ Yba.underlying56 l1
theorem ret9 {x : Int} {y : Nat} (h : x = (y : Int)) : Value.int .i64 x = Value.int .i64 (y : Nat) := by rw [h]

set_option maxRecDepth 100000 in
set_option maxHeartbeats 4000000 in
theorem law (s : Nat → Int) (nb : Int) (ib io len cap : Nat) (Pos Low Port Slot : Nat → Int) (Mis : Nat → Bool) (pick qpos qlow qport : Int) (n : Nat) (w : World) (hs : Bytes s) (hn : 1 + nb % 12 = (n : Int)) (n0 : 1 ≤ n) (n1 : n ≤ 12) (b0 : 0 ≤ nb) (b1 : nb ≤ 255) (hl : ¬ 1024 < (len : Int))
    (hI : ∀ i, i < len → Item w ib io i (Pos i) (Low i) (Port i) (Slot i) (Mis i)) (pk0 : 0 ≤ pick) (pk1 : pick ≤ 65535) (qp0 : 0 ≤ qpos) (qp1 : qpos ≤ 255) (ql0 : 0 ≤ qlow) (ql1 : qlow ≤ 255) :
    Calls Yba.prog 3 #[idV s, .int .u8 nb, .slice (some ⟨ib, io, none⟩) len cap, .int .u16 pick, .int .u8 qpos, .int .u8 qlow, .int .u16 qport] w fun e w' => e = .returned (.bool true) ∧ Below w.heap.size w w' := by
  have HI : Hid (∀ i, i < len → Item w ib io i (Pos i) (Low i) (Port i) (Slot i) (Mis i)) := hI
  clear hI
  have HS : Hid (Bytes s) := hs
  clear hs
  unfold idV
  have hmk := make12 n n0 n1
  have r1 : (w.alloc (.cells (ids s).toArray 22)).rangeAt w.heap.size 0 (ids s) := range_block (heap_alloc_new w _)
  go_enter Yba.func3, Yba.ntmps3
  go_wp2_with fail
  go_cut [16] from 34 to 37 (fun t W => ∃ T Bk, t = .pointer (some ⟨T, 0, none⟩) ∧ Made w W s n T Bk)
  case first =>
    refine E_region (fun i => i == 5) (fun w' => w'.rangeAt w.heap.size 0 (ids s)) (by kernel_rfl) ?_
    have r1d : (w.alloc (.cells (ids s).toArray 22)).drew.rangeAt w.heap.size 0 (ids s) := r1
    refine E_load (i := 0) (d := some 34) rfl (by kernel_rfl) (by kernel_rfl) (by kernel_rfl) (by kernel_rfl) rfl rfl 22 _ rfl w.heap.size 0 rfl (ids s) _ (fun _ h => h) Yba.underlying22 rfl (info22l s) r1d ?_
    simp only [Act.put, List.setIfInBounds_toArray, List.set_cons_zero, List.set_cons_succ]
    refine E_take (i := 1) (d := some 35) (v := .int .i64 n) rfl (by kernel_rfl) (by kernel_rfl) (by kernel_rfl) (by kernel_rfl) rfl rfl (fun w' _ => rfl) r1d ?_
    simp only [Act.put, List.setIfInBounds_toArray, List.set_cons_zero, List.set_cons_succ]
    refine E_two (i := 2) (k := 4) (by kernel_rfl) rfl rfl rfl rfl ?_ ?_
    · refine wp_value (d := some 36) (v := .slice (some ⟨w.heap.size + 1, 0, none⟩) n n) (w' := ((w.alloc (.cells (ids s).toArray 22)).alloc (.cells (zbs n).toArray 53)).drew) rfl (by go_simp) ?_
      have r2 : ((w.alloc (.cells (ids s).toArray 22)).alloc (.cells (zbs n).toArray 53)).drew.rangeAt w.heap.size 0 (ids s) := World.rangeAt_alloc r1 _
      refine ⟨fun _ => r2, ?_⟩
      simp only [Act.put, List.setIfInBounds_toArray, List.set_cons_zero, List.set_cons_succ]
      refine E_take (i := 3) (d := some 37) (v := .agg (tabC s (.slice (some ⟨w.heap.size + 1, 0, none⟩) n n)).toArray) rfl (by kernel_rfl) (by kernel_rfl) (by kernel_rfl) (by kernel_rfl) rfl rfl (fun w' _ => exec_build rfl (by kernel_rfl) w') r2 ?_
      simp only [Act.put, List.setIfInBounds_toArray, List.set_cons_zero, List.set_cons_succ]
      refine E_one (i := 4) (by kernel_rfl) rfl rfl ?_
      refine wp_value (d := some 16) (v := .pointer (some ⟨w.heap.size + 1 + 1, 0, none⟩)) (w' := (((w.alloc (.cells (ids s).toArray 22)).alloc (.cells (zbs n).toArray 53)).alloc (.cells (tabC zid (.slice none 0 0)).toArray 30)).drew) rfl (by go_simp; rfl) ?_
      refine ⟨fun _ => World.rangeAt_alloc (w := (w.alloc (.cells (ids s).toArray 22)).alloc (.cells (zbs n).toArray 53)) r2 _, ?_⟩
      simp only [Act.put, List.setIfInBounds_toArray, List.set_cons_zero, List.set_cons_succ]
      refine E_one (i := 5) (by kernel_rfl) rfl rfl ?_
      refine wp_store rfl 30 _ _ rfl (w.heap.size + 1 + 1) 0 (tabC s (.slice (some ⟨w.heap.size + 1, 0, none⟩) n n)) rfl rfl (there_block (C := (tabC zid (.slice none 0 0)).toArray) (t := 30) (heap3_2 w _ _ _) _ (by simp [tabC_length])) (info30l _ _) (tabC_cell s _ _ _) ?_
      refine ⟨(fun h => by cases h), E_done (by kernel_rfl) (NoPanic.normal ?_)⟩
      go_wp2_with fail
      go_meet
      case rel => exact ⟨_, _, rfl, Made.one w s n⟩
    · refine wp_value (d := some 16) (v := .pointer (some ⟨w.heap.size + 1, 0, none⟩)) (w' := ((w.alloc (.cells (ids s).toArray 22)).alloc (.cells (tabC zid (.slice none 0 0)).toArray 30)).drew) rfl (by go_simp; rfl) ?_
      have r2 : ((w.alloc (.cells (ids s).toArray 22)).alloc (.cells (tabC zid (.slice none 0 0)).toArray 30)).drew.rangeAt w.heap.size 0 (ids s) := World.rangeAt_alloc r1 _
      refine ⟨fun _ => r2, ?_⟩
      simp only [Act.put, List.setIfInBounds_toArray, List.set_cons_zero, List.set_cons_succ]
      refine E_one (i := 2) (by kernel_rfl) rfl rfl ?_
      refine wp_value (d := some 36) (v := .slice (some ⟨w.heap.size + 1 + 1, 0, none⟩) n n) (w' := (((w.alloc (.cells (ids s).toArray 22)).alloc (.cells (tabC zid (.slice none 0 0)).toArray 30)).alloc (.cells (zbs n).toArray 53)).drew) rfl (by go_simp) ?_
      have r3 : (((w.alloc (.cells (ids s).toArray 22)).alloc (.cells (tabC zid (.slice none 0 0)).toArray 30)).alloc (.cells (zbs n).toArray 53)).drew.rangeAt w.heap.size 0 (ids s) := World.rangeAt_alloc (w := (w.alloc (.cells (ids s).toArray 22)).alloc (.cells (tabC zid (.slice none 0 0)).toArray 30)) r2 _
      refine ⟨fun _ => r3, ?_⟩
      simp only [Act.put, List.setIfInBounds_toArray, List.set_cons_zero, List.set_cons_succ]
      refine E_take (i := 3) (d := some 37) (v := .agg (tabC s (.slice (some ⟨w.heap.size + 1 + 1, 0, none⟩) n n)).toArray) rfl (by kernel_rfl) (by kernel_rfl) (by kernel_rfl) (by kernel_rfl) rfl rfl (fun w' _ => exec_build rfl (by kernel_rfl) w') r3 ?_
      simp only [Act.put, List.setIfInBounds_toArray, List.set_cons_zero, List.set_cons_succ]
      refine E_one (i := 5) (by kernel_rfl) rfl rfl ?_
      refine wp_store rfl 30 _ _ rfl (w.heap.size + 1) 0 (tabC s (.slice (some ⟨w.heap.size + 1 + 1, 0, none⟩) n n)) rfl rfl (there_block (C := (tabC zid (.slice none 0 0)).toArray) (t := 30) (heap3_1 w _ _ _) _ (by simp [tabC_length])) (info30l _ _) (tabC_cell s _ _ _) ?_
      refine ⟨(fun h => by cases h), E_done (by kernel_rfl) (NoPanic.normal ?_)⟩
      go_wp2_with fail
      go_meet
      case rel => exact ⟨_, _, rfl, Made.two w s n⟩
  case rest =>
    obtain ⟨T, Bk, rfl, hM⟩ := hcut
    have HM : Hid (Made w wc s n T Bk) := hM
    clear hM hmk r1
    go_wp2_with fail
    go_loopg [40] len (fun r t wr => ∃ k V E, k + r = len ∧ t = .int .i64 (k : Nat) ∧ LInv w s n T Bk k wr V E)
    case atStart => exact ⟨0, _, _, by omega, rfl, LInv.start HM.out⟩
    case round =>
      obtain ⟨k, V, E, hk, rfl, hin⟩ := hrel
      have HL : Hid (LInv w s n T Bk k wr V E) := hin
      clear hin
      by_cases hlt : (k : Int) < (len : Int)
      · have hit := HI.out k (by omega)
        have k0 : (0 : Int) ≤ (k : Int) := Int.natCast_nonneg _
        have ibl : ib < w.heap.size := World.block_lt_of_cell? w _ hit.c0
        have c0 : wr.cell? ⟨ib, io + k * 5, none⟩ = some (.int .u8 (Pos k)) := by rw [HL.out.bel.cell (p := ⟨ib, _, none⟩) ibl]; exact hit.c0
        have c1 : wr.cell? ⟨ib, io + k * 5 + 1, none⟩ = some (.int .u8 (Low k)) := by rw [HL.out.bel.cell (p := ⟨ib, _, none⟩) ibl]; exact hit.c1
        have c2 : wr.cell? ⟨ib, io + k * 5 + 2, none⟩ = some (.int .u16 (Port k)) := by rw [HL.out.bel.cell (p := ⟨ib, _, none⟩) ibl]; exact hit.c2
        have c3 : wr.cell? ⟨ib, io + k * 5 + 3, none⟩ = some (.int .u8 (Slot k)) := by rw [HL.out.bel.cell (p := ⟨ib, _, none⟩) ibl]; exact hit.c3
        have c4 : wr.cell? ⟨ib, io + k * 5 + 4, none⟩ = some (.bool (Mis k)) := by rw [HL.out.bel.cell (p := ⟨ib, _, none⟩) ibl]; exact hit.c4
        have HT : Hid (Item w ib io k (Pos k) (Low k) (Port k) (Slot k) (Mis k)) := hit
        clear hit
        go_wp2_with fail
        have HLi : Hid (LInv w s n T Bk k (wr.alloc (.cells #[.int .u8 (Pos k), .int .u8 (Low k), .int .u16 (Port k), .int .u8 (Slot k), .bool (Mis k)] 32)) V E) := HL.out.below ((Below.refl _ _).alloc (Nat.le_refl _) _)
        have hiz : (wr.alloc (.cells #[.int .u8 (Pos k), .int .u8 (Low k), .int .u16 (Port k), .int .u8 (Slot k), .bool (Mis k)] 32)).heap.size = wr.heap.size + 1 := by simp
        have i0 : (wr.alloc (.cells #[.int .u8 (Pos k), .int .u8 (Low k), .int .u16 (Port k), .int .u8 (Slot k), .bool (Mis k)] 32)).cell? ⟨wr.heap.size, 0, none⟩ = some (.int .u8 (Pos k)) := by rw [cell_of_row _ _ 0 _ 32 _ (heap_alloc_new wr _)]; rfl
        have i1 : (wr.alloc (.cells #[.int .u8 (Pos k), .int .u8 (Low k), .int .u16 (Port k), .int .u8 (Slot k), .bool (Mis k)] 32)).cell? ⟨wr.heap.size, 1, none⟩ = some (.int .u8 (Low k)) := by rw [cell_of_row _ _ 1 _ 32 _ (heap_alloc_new wr _)]; rfl
        have i2 : (wr.alloc (.cells #[.int .u8 (Pos k), .int .u8 (Low k), .int .u16 (Port k), .int .u8 (Slot k), .bool (Mis k)] 32)).cell? ⟨wr.heap.size, 2, none⟩ = some (.int .u16 (Port k)) := by rw [cell_of_row _ _ 2 _ 32 _ (heap_alloc_new wr _)]; rfl
        have i3 : (wr.alloc (.cells #[.int .u8 (Pos k), .int .u8 (Low k), .int .u16 (Port k), .int .u8 (Slot k), .bool (Mis k)] 32)).cell? ⟨wr.heap.size, 3, none⟩ = some (.int .u8 (Slot k)) := by rw [cell_of_row _ _ 3 _ 32 _ (heap_alloc_new wr _)]; rfl
        have i4 : (wr.alloc (.cells #[.int .u8 (Pos k), .int .u8 (Low k), .int .u16 (Port k), .int .u8 (Slot k), .bool (Mis k)] 32)).cell? ⟨wr.heap.size, 4, none⟩ = some (.bool (Mis k)) := by rw [cell_of_row _ _ 4 _ 32 _ (heap_alloc_new wr _)]; rfl
        generalize wr.alloc (.cells #[.int .u8 (Pos k), .int .u8 (Low k), .int .u16 (Port k), .int .u8 (Slot k), .bool (Mis k)] 32) = wi at HLi hiz i0 i1 i2 i3 i4 ⊢
        clear c0 c1 c2 c3 c4
        go_cut [19] from 44 to 85 (fun t W => ∃ cb x, t = .pointer (some ⟨cb, 0, none⟩) ∧ C8 wi W cb x (Port k))
        case first =>
          refine E_region (fun i => i == 12) (fun w' => Below wi.heap.size wi w') (by kernel_rfl) ?_
          have hd : Below wi.heap.size wi wi.drew := (Below.refl _ _).drew
          have zz := HLi.out.sz
          refine E_load (i := 0) (d := some 44) rfl (by kernel_rfl) (by kernel_rfl) (by kernel_rfl) (by kernel_rfl) rfl rfl 22 _ rfl w.heap.size 0 rfl (ids s) _ (fun w' h => rangeAt_below h (by omega) HLi.out.self) Yba.underlying22 rfl (info22l s) hd ?_
          simp only [Act.put, List.setIfInBounds_toArray, List.set_cons_zero, List.set_cons_succ]
          refine E_take (i := 1) (d := some 45) (v := .pointer (some ⟨wr.heap.size, 0, none⟩)) rfl (by kernel_rfl) (by kernel_rfl) (by kernel_rfl) (by kernel_rfl) rfl rfl (fun w' _ => by go_simp) hd ?_
          simp only [Act.put, List.setIfInBounds_toArray, List.set_cons_zero, List.set_cons_succ]
          refine E_take (i := 2) (d := some 46) (v := .int .u8 (Pos k)) rfl (by kernel_rfl) (by kernel_rfl) (by kernel_rfl) (by kernel_rfl) rfl rfl (fun w' h => by have c := (h.cell (p := ⟨wr.heap.size, 0, none⟩) (by show wr.heap.size < _; omega)).trans i0; go_simp) hd ?_
          simp only [Act.put, List.setIfInBounds_toArray, List.set_cons_zero, List.set_cons_succ]
          refine E_take (i := 3) (d := some 47) (v := .pointer (some ⟨wr.heap.size, 1, none⟩)) rfl (by kernel_rfl) (by kernel_rfl) (by kernel_rfl) (by kernel_rfl) rfl rfl (fun w' _ => by go_simp) hd ?_
          simp only [Act.put, List.setIfInBounds_toArray, List.set_cons_zero, List.set_cons_succ]
          refine E_take (i := 4) (d := some 48) (v := .int .u8 (Low k)) rfl (by kernel_rfl) (by kernel_rfl) (by kernel_rfl) (by kernel_rfl) rfl rfl (fun w' h => by have c := (h.cell (p := ⟨wr.heap.size, 1, none⟩) (by show wr.heap.size < _; omega)).trans i1; go_simp) hd ?_
          simp only [Act.put, List.setIfInBounds_toArray, List.set_cons_zero, List.set_cons_succ]
          refine E_take (i := 6) (d := some 50) (v := .agg #[.int .u64 0, .int .u64 0, .pointer none]) rfl (by kernel_rfl) (by kernel_rfl) (by kernel_rfl) (by kernel_rfl) rfl rfl (fun w' _ => exec_build (cs := [.int .u64 0, .int .u64 0, .pointer none]) rfl (by kernel_rfl) w') hd ?_
          simp only [Act.put, List.setIfInBounds_toArray, List.set_cons_zero, List.set_cons_succ]
          refine E_take (i := 7) (d := some 51) (v := .pointer (some ⟨wr.heap.size, 2, none⟩)) rfl (by kernel_rfl) (by kernel_rfl) (by kernel_rfl) (by kernel_rfl) rfl rfl (fun w' _ => by go_simp) hd ?_
          simp only [Act.put, List.setIfInBounds_toArray, List.set_cons_zero, List.set_cons_succ]
          refine E_take (i := 8) (d := some 52) (v := .int .u16 (Port k)) rfl (by kernel_rfl) (by kernel_rfl) (by kernel_rfl) (by kernel_rfl) rfl rfl (fun w' h => by have c := (h.cell (p := ⟨wr.heap.size, 2, none⟩) (by show wr.heap.size < _; omega)).trans i2; go_simp) hd ?_
          simp only [Act.put, List.setIfInBounds_toArray, List.set_cons_zero, List.set_cons_succ]
          refine E_two (i := 5) (k := 11) (by kernel_rfl) rfl rfl rfl rfl ?_ ?_
          · refine wp_call (d := some 49) (f := 6) (args := #[idV s, .int .u8 (Pos k), .int .u8 (Low k)]) (R := fun v w1 => ∃ x, v = idV x ∧ Bytes x ∧ Below wi.drew.heap.size wi.drew w1) rfl (by unfold idV; go_simp) ((mkId s (Pos k) (Low k) HS.out HT.out.p0.1 HT.out.p0.2 HT.out.l0.1 HT.out.l0.2 wi.drew).mono fun e w' ⟨x, he, hx, hb⟩ => ⟨_, he, x, rfl, hx, hb⟩) ?_
            rintro v w1 ⟨x, rfl, bx, hb1⟩
            have B1 : Below wi.heap.size wi w1 := hd.trans hb1
            refine ⟨fun _ => B1, ?_⟩
            unfold idV
            simp only [Act.put, List.setIfInBounds_toArray, List.set_cons_zero, List.set_cons_succ]
            refine E_two (i := 9) (k := 11) (by kernel_rfl) rfl rfl rfl rfl ?_ ?_
            · refine wp_call (d := some 53) (f := 7) (args := #[.agg #[.int .u64 0, .int .u64 0, .pointer none], .int .u16 (Port k)]) (R := fun v w2 => v = .agg (adr (Port k)).toArray ∧ Below w1.heap.size w1 w2) rfl (by go_simp) ((addrPortFrom (Port k) w1).mono fun e w' ⟨he, hb⟩ => ⟨_, he, rfl, hb⟩) ?_
              rintro v w2 ⟨rfl, hb2⟩
              have B2 : Below wi.heap.size wi w2 := B1.trans (hb2.mono B1.size)
              refine ⟨fun _ => B2, ?_⟩
              simp only [Act.put, List.setIfInBounds_toArray, List.set_cons_zero, List.set_cons_succ]
              refine E_take (i := 10) (d := some 54) (v := .agg (con x (Port k)).toArray) rfl (by kernel_rfl) (by kernel_rfl) (by kernel_rfl) (by kernel_rfl) rfl rfl (fun w' _ => exec_build rfl (by kernel_rfl) w') B2 ?_
              simp only [Act.put, List.setIfInBounds_toArray, List.set_cons_zero, List.set_cons_succ]
              refine E_one (i := 11) (by kernel_rfl) rfl rfl ?_
              refine wp_value (d := some 19) (v := .pointer (some ⟨w2.heap.size, 0, none⟩)) (w' := w2.alloc (.cells (con zid 0).toArray 46)) rfl (by go_simp; rfl) ?_
              have B3 : Below wi.heap.size wi (w2.alloc (.cells (con zid 0).toArray 46)) := B2.alloc B2.size _
              refine ⟨fun _ => B3, ?_⟩
              simp only [Act.put, List.setIfInBounds_toArray, List.set_cons_zero, List.set_cons_succ]
              refine E_one (i := 12) (by kernel_rfl) rfl rfl ?_
              refine wp_store rfl 46 _ _ rfl w2.heap.size 0 (con x (Port k)) rfl rfl ((alloc46 w2).there x _) (info46l x _) (con_cell x _) ?_
              refine ⟨(fun h => by cases h), E_done (by kernel_rfl) (NoPanic.normal ?_)⟩
              go_wp2_with fail
              go_meet
              case rel => exact ⟨_, x, rfl, C8.mk' B3 (alloc46 w2) B2.size bx⟩
            · refine wp_value (d := some 19) (v := .pointer (some ⟨w1.heap.size, 0, none⟩)) (w' := w1.alloc (.cells (con zid 0).toArray 46)) rfl (by go_simp; rfl) ?_
              have B2 : Below wi.heap.size wi (w1.alloc (.cells (con zid 0).toArray 46)) := B1.alloc B1.size _
              refine ⟨fun _ => B2, ?_⟩
              simp only [Act.put, List.setIfInBounds_toArray, List.set_cons_zero, List.set_cons_succ]
              refine E_one (i := 9) (by kernel_rfl) rfl rfl ?_
              refine wp_call (d := some 53) (f := 7) (args := #[.agg #[.int .u64 0, .int .u64 0, .pointer none], .int .u16 (Port k)]) (R := fun v w2 => v = .agg (adr (Port k)).toArray ∧ Below (w1.alloc (.cells (con zid 0).toArray 46)).heap.size (w1.alloc (.cells (con zid 0).toArray 46)) w2) rfl (by go_simp) ((addrPortFrom (Port k) (w1.alloc (.cells (con zid 0).toArray 46))).mono fun e w' ⟨he, hb⟩ => ⟨_, he, rfl, hb⟩) ?_
              rintro v w2 ⟨rfl, hb2⟩
              have B3 : Below wi.heap.size wi w2 := B2.trans (hb2.mono B2.size)
              have F3 : Fresh w2 w1.heap.size := (alloc46 w1).below hb2 (alloc46 w1).lt
              refine ⟨fun _ => B3, ?_⟩
              simp only [Act.put, List.setIfInBounds_toArray, List.set_cons_zero, List.set_cons_succ]
              refine E_take (i := 10) (d := some 54) (v := .agg (con x (Port k)).toArray) rfl (by kernel_rfl) (by kernel_rfl) (by kernel_rfl) (by kernel_rfl) rfl rfl (fun w' _ => exec_build rfl (by kernel_rfl) w') B3 ?_
              simp only [Act.put, List.setIfInBounds_toArray, List.set_cons_zero, List.set_cons_succ]
              refine E_one (i := 12) (by kernel_rfl) rfl rfl ?_
              refine wp_store rfl 46 _ _ rfl w1.heap.size 0 (con x (Port k)) rfl rfl (F3.there x _) (info46l x _) (con_cell x _) ?_
              refine ⟨(fun h => by cases h), E_done (by kernel_rfl) (NoPanic.normal ?_)⟩
              go_wp2_with fail
              go_meet
              case rel => exact ⟨_, x, rfl, C8.mk' B3 F3 B1.size bx⟩
          · refine wp_value (d := some 19) (v := .pointer (some ⟨wi.heap.size, 0, none⟩)) (w' := (wi.alloc (.cells (con zid 0).toArray 46)).drew) rfl (by go_simp; rfl) ?_
            have B1 : Below wi.heap.size wi (wi.alloc (.cells (con zid 0).toArray 46)).drew := ((Below.refl _ _).alloc (Nat.le_refl _) _).drew
            have F1 : Fresh (wi.alloc (.cells (con zid 0).toArray 46)).drew wi.heap.size := alloc46 wi
            refine ⟨fun _ => B1, ?_⟩
            simp only [Act.put, List.setIfInBounds_toArray, List.set_cons_zero, List.set_cons_succ]
            refine E_one (i := 5) (by kernel_rfl) rfl rfl ?_
            refine wp_call (d := some 49) (f := 6) (args := #[idV s, .int .u8 (Pos k), .int .u8 (Low k)]) (R := fun v w1 => ∃ x, v = idV x ∧ Bytes x ∧ Below (wi.alloc (.cells (con zid 0).toArray 46)).drew.heap.size (wi.alloc (.cells (con zid 0).toArray 46)).drew w1) rfl (by unfold idV; go_simp) ((mkId s (Pos k) (Low k) HS.out HT.out.p0.1 HT.out.p0.2 HT.out.l0.1 HT.out.l0.2 (wi.alloc (.cells (con zid 0).toArray 46)).drew).mono fun e w' ⟨x, he, hx, hb⟩ => ⟨_, he, x, rfl, hx, hb⟩) ?_
            rintro v w1 ⟨x, rfl, bx, hb1⟩
            have B2 : Below wi.heap.size wi w1 := B1.trans (hb1.mono B1.size)
            have F2 : Fresh w1 wi.heap.size := F1.below hb1 F1.lt
            refine ⟨fun _ => B2, ?_⟩
            unfold idV
            simp only [Act.put, List.setIfInBounds_toArray, List.set_cons_zero, List.set_cons_succ]
            refine E_one (i := 9) (by kernel_rfl) rfl rfl ?_
            refine wp_call (d := some 53) (f := 7) (args := #[.agg #[.int .u64 0, .int .u64 0, .pointer none], .int .u16 (Port k)]) (R := fun v w2 => v = .agg (adr (Port k)).toArray ∧ Below w1.heap.size w1 w2) rfl (by go_simp) ((addrPortFrom (Port k) w1).mono fun e w' ⟨he, hb⟩ => ⟨_, he, rfl, hb⟩) ?_
            rintro v w2 ⟨rfl, hb2⟩
            have B3 : Below wi.heap.size wi w2 := B2.trans (hb2.mono B2.size)
            have F3 : Fresh w2 wi.heap.size := F2.below hb2 F2.lt
            refine ⟨fun _ => B3, ?_⟩
            simp only [Act.put, List.setIfInBounds_toArray, List.set_cons_zero, List.set_cons_succ]
            refine E_take (i := 10) (d := some 54) (v := .agg (con x (Port k)).toArray) rfl (by kernel_rfl) (by kernel_rfl) (by kernel_rfl) (by kernel_rfl) rfl rfl (fun w' _ => exec_build rfl (by kernel_rfl) w') B3 ?_
            simp only [Act.put, List.setIfInBounds_toArray, List.set_cons_zero, List.set_cons_succ]
            refine E_one (i := 12) (by kernel_rfl) rfl rfl ?_
            refine wp_store rfl 46 _ _ rfl wi.heap.size 0 (con x (Port k)) rfl rfl (F3.there x _) (info46l x _) (con_cell x _) ?_
            refine ⟨(fun h => by cases h), E_done (by kernel_rfl) (NoPanic.normal ?_)⟩
            go_wp2_with fail
            go_meet
            case rel => exact ⟨_, x, rfl, C8.mk' B3 F3 (Nat.le_refl _) bx⟩
        case rest =>
          obtain ⟨cb, x, rfl, hC⟩ := hcut
          have HC : Hid (C8 wi wc cb x (Port k)) := hC
          have HLc : Hid (LInv w s n T Bk k wc V E) := HLi.out.below hC.bel
          have q1 := con_ids hC.con
          have q2 := HLc.out.tid
          have HI3 : Hid (wc.cell? ⟨wr.heap.size, 3, none⟩ = some (.int .u8 (Slot k))) := (hC.bel.cell (p := ⟨wr.heap.size, 3, none⟩) (by show wr.heap.size < _; omega)).trans i3
          have HI4 : Hid (wc.cell? ⟨wr.heap.size, 4, none⟩ = some (.bool (Mis k))) := (hC.bel.cell (p := ⟨wr.heap.size, 4, none⟩) (by show wr.heap.size < _; omega)).trans i4
          have hsz : wr.heap.size < wc.heap.size := by have := hC.bel.size; omega
          clear hC i0 i1 i2 i3 i4
          go_upto_region 9 with fail
          go_cut [20] from 44 to 85 (fun t W => t = .int .i64 (bk x s n : Nat) ∧ Below wc.heap.size wc W)
          case first =>
            go_wp2_with (first | (refine wpList_load_mid rfl 25 _ rfl cb 0 rfl (ids x) _ q1 Yba.underlying25 rfl (info25l x) ?_) | (refine wpList_load_mid rfl 25 _ rfl T 0 rfl (ids s) _ q2 Yba.underlying25 rfl (info25l s) ?_) | (go_at_call 8; refine (ashared' x s _).mono ?_; rintro e w' ⟨rfl, hb8⟩))
            all_goals
              go_meet
              case rel => exact ⟨ret9 (by unfold bk; omega), hb8⟩
          case rest =>
            obtain ⟨rfl, hb9⟩ := hcut
            have HLd : Hid (LInv w s n T Bk k wc V E) := HLc.out.below hb9
            have HR : Hid (wc.rangeAt cb 0 (con x (Port k))) := rangeAt_below hb9 (con_lt HC.out.con) HC.out.con
            have j3 : wc.cell? ⟨wr.heap.size, 3, none⟩ = some (.int .u8 (Slot k)) := (hb9.cell (p := ⟨wr.heap.size, 3, none⟩) hsz).trans HI3.out
            have j4 : wc.cell? ⟨wr.heap.size, 4, none⟩ = some (.bool (Mis k)) := (hb9.cell (p := ⟨wr.heap.size, 4, none⟩) hsz).trans HI4.out
            have bx0 := bk_lt x s n n0
            have t0 := HT.out.s0.1
            have t1 := HT.out.s0.2
            have hcb : V k ≠ .bool true ∨ wi.heap.size ≤ cb := .inr HC.out.lo
            clear q1 q2 hb9 hsz
            go_upto_if 64 with fail
            go_cut [20] from 42 to 85 (fun t W => ∃ b : Nat, t = .int .i64 (b : Nat) ∧ b < n ∧ W = wc)
            case first =>
              cases hm : Mis k
              · go_wp2_with fail
                go_meet
                case rel => exact ⟨_, rfl, bx0, rfl⟩
              · go_wp2_with fail
                go_meet
                case rel => exact ⟨(Slot k % (n : Int)).toNat, ret9 (by have := Int.emod_nonneg (Slot k) (b := (n : Int)) (by omega); omega), by have := Int.emod_nonneg (Slot k) (b := (n : Int)) (by omega); have := Int.emod_lt_of_pos (Slot k) (b := (n : Int)) (by omega); omega, rfl⟩
            case rest =>
              obtain ⟨b, rfl, hb, rfl⟩ := hcut
              have hb' : (b : Int) < (n : Int) := by omega
              have hb0 : (0 : Int) ≤ (b : Int) := Int.natCast_nonneg _
              have hc := HLd.out.c20
              have he := HLd.out.ev b hb
              have tl := HLd.out.tlt
              go_upto_region 12 with fail
              refine E_region (fun i => i == 15) (fun w' => w'.cell? ⟨T, 20, none⟩ = some (.slice (some ⟨Bk, 0, none⟩) n n) ∧ w'.cell? ⟨Bk, b * 5, none⟩ = some (V b) ∧ w'.rangeAt cb 0 (con x (Port k))) (by kernel_rfl) ?_
              have hd : wc.drew.cell? ⟨T, 20, none⟩ = some (.slice (some ⟨Bk, 0, none⟩) n n) ∧ wc.drew.cell? ⟨Bk, b * 5, none⟩ = some (V b) ∧ wc.drew.rangeAt cb 0 (con x (Port k)) := ⟨hc, he, HR.out⟩
              refine E_take (i := 0) (d := some 70) (v := .pointer (some ⟨T, 20, none⟩)) rfl (by kernel_rfl) (by kernel_rfl) (by kernel_rfl) (by kernel_rfl) rfl rfl (fun w' _ => by go_simp) hd ?_
              simp only [Act.put, List.setIfInBounds_toArray, List.set_cons_zero, List.set_cons_succ]
              refine E_take (i := 1) (d := some 71) (v := .slice (some ⟨Bk, 0, none⟩) n n) rfl (by kernel_rfl) (by kernel_rfl) (by kernel_rfl) (by kernel_rfl) rfl rfl (fun w' h => by have c := h.1; go_simp) hd ?_
              simp only [Act.put, List.setIfInBounds_toArray, List.set_cons_zero, List.set_cons_succ]
              refine E_take (i := 2) (d := some 72) (v := .int .i64 b) rfl (by kernel_rfl) (by kernel_rfl) (by kernel_rfl) (by kernel_rfl) rfl rfl (fun w' _ => rfl) hd ?_
              simp only [Act.put, List.setIfInBounds_toArray, List.set_cons_zero, List.set_cons_succ]
              refine E_take (i := 3) (d := some 73) (v := .pointer (some ⟨T, 20, none⟩)) rfl (by kernel_rfl) (by kernel_rfl) (by kernel_rfl) (by kernel_rfl) rfl rfl (fun w' _ => by go_simp) hd ?_
              simp only [Act.put, List.setIfInBounds_toArray, List.set_cons_zero, List.set_cons_succ]
              refine E_take (i := 4) (d := some 74) (v := .slice (some ⟨Bk, 0, none⟩) n n) rfl (by kernel_rfl) (by kernel_rfl) (by kernel_rfl) (by kernel_rfl) rfl rfl (fun w' h => by have c := h.1; go_simp) hd ?_
              simp only [Act.put, List.setIfInBounds_toArray, List.set_cons_zero, List.set_cons_succ]
              refine E_take (i := 5) (d := some 75) (v := .int .i64 b) rfl (by kernel_rfl) (by kernel_rfl) (by kernel_rfl) (by kernel_rfl) rfl rfl (fun w' _ => rfl) hd ?_
              simp only [Act.put, List.setIfInBounds_toArray, List.set_cons_zero, List.set_cons_succ]
              refine E_take (i := 6) (d := some 76) (v := .pointer (some ⟨Bk, b * 5, none⟩)) rfl (by kernel_rfl) (by kernel_rfl) (by kernel_rfl) (by kernel_rfl) rfl rfl (fun w' _ => by go_simp) hd ?_
              simp only [Act.put, List.setIfInBounds_toArray, List.set_cons_zero, List.set_cons_succ]
              refine E_take (i := 7) (d := some 77) (v := .pointer (some ⟨Bk, b * 5, none⟩)) rfl (by kernel_rfl) (by kernel_rfl) (by kernel_rfl) (by kernel_rfl) rfl rfl (fun w' _ => by go_simp) hd ?_
              simp only [Act.put, List.setIfInBounds_toArray, List.set_cons_zero, List.set_cons_succ]
              refine E_take (i := 8) (d := some 78) (v := V b) rfl (by kernel_rfl) (by kernel_rfl) (by kernel_rfl) (by kernel_rfl) rfl rfl (fun w' h => by have c := h.2.1; go_simp) hd ?_
              simp only [Act.put, List.setIfInBounds_toArray, List.set_cons_zero, List.set_cons_succ]
              refine E_load (i := 9) (d := some 79) rfl (by kernel_rfl) (by kernel_rfl) (by kernel_rfl) (by kernel_rfl) rfl rfl 46 _ rfl cb 0 rfl (con x (Port k)) _ (fun w' h => h.2.2) Yba.underlying46 rfl (info46l x _) hd ?_
              simp only [Act.put, List.setIfInBounds_toArray, List.set_cons_zero, List.set_cons_succ]
              refine E_take (i := 10) (d := some 80) (v := .agg (ent x (Port k)).toArray) rfl (by kernel_rfl) (by kernel_rfl) (by kernel_rfl) (by kernel_rfl) rfl rfl (fun w' _ => exec_build rfl (by kernel_rfl) w') hd ?_
              simp only [Act.put, List.setIfInBounds_toArray, List.set_cons_zero, List.set_cons_succ]
              refine E_one (i := 11) (by kernel_rfl) rfl rfl ?_
              refine wp_value (d := some 81) (v := .slice (some ⟨wc.heap.size, 0, none⟩) 1 1) (w' := (wc.alloc (.cells (ent x (Port k)).toArray 55)).drew) rfl (by kernel_rfl) ?_
              have hcl := con_lt HR.out
              have B12 : Below wc.heap.size wc (wc.alloc (.cells (ent x (Port k)).toArray 55)).drew := ((Below.refl _ _).alloc (Nat.le_refl _) _).drew
              have h12 : (wc.alloc (.cells (ent x (Port k)).toArray 55)).drew.cell? ⟨T, 20, none⟩ = some (.slice (some ⟨Bk, 0, none⟩) n n) ∧ (wc.alloc (.cells (ent x (Port k)).toArray 55)).drew.cell? ⟨Bk, b * 5, none⟩ = some (V b) ∧ (wc.alloc (.cells (ent x (Port k)).toArray 55)).drew.rangeAt cb 0 (con x (Port k)) := ⟨(B12.cell (p := ⟨T, 20, none⟩) tl.1).trans hc, (B12.cell (p := ⟨Bk, b * 5, none⟩) tl.2.1).trans he, rangeAt_below B12 hcl HR.out⟩
              refine ⟨fun _ => h12, ?_⟩
              simp only [Act.put, List.setIfInBounds_toArray, List.set_cons_zero, List.set_cons_succ]
              refine E_one (i := 12) (by kernel_rfl) rfl rfl ?_
              have hov := HLd.out.own b hb
              have hz12 : (wc.alloc (.cells (ent x (Port k)).toArray 55)).drew.heap.size = wc.heap.size + 1 := by show (wc.alloc (.cells (ent x (Port k)).toArray 55)).heap.size = _; simp
              have hcnt := HLd.out.cnt b hb
              have hsz2 := HLd.out.sz
              refine append55 _ _ rfl (w.heap.size + 1 + 1 + 1) (V b) (E b).length (flat (E b)) rfl (own_same hov (fun g hg => B12.block g (own_ge hov g hg).2)) ⟨wc.heap.size, 0, none⟩ (ent x (Port k)) rfl (ent_length _ _) (World.news_of_block (w := (wc.alloc (.cells (ent x (Port k)).toArray 55)).drew) (heap_alloc_new wc _)) (ent_cell x _) (by omega) (by omega) (wc.heap.size + 1) hz12 ?_
              intro g cp w1 hown hgrow hat hlt1
              have far1 : ∀ (j o : Nat), j < w.heap.size + 1 + 1 + 1 ∨ (j = cb) → w1.cell? ⟨j, o, none⟩ = (wc.alloc (.cells (ent x (Port k)).toArray 55)).drew.cell? ⟨j, o, none⟩ := fun j o hj => by
                refine hgrow.cell_far ⟨j, o, none⟩ (by show j < _; omega) (fun e => ?_)
                have e1 := own_ge hov j e.symm
                have e2 := own_ge (HLi.out.own b hb) j e.symm
                have e3 := HC.out.lo
                omega
              have h13 : w1.cell? ⟨T, 20, none⟩ = some (.slice (some ⟨Bk, 0, none⟩) n n) ∧ w1.cell? ⟨Bk, b * 5, none⟩ = some (V b) ∧ w1.rangeAt cb 0 (con x (Port k)) := ⟨(far1 T 20 (.inl (by omega))).trans h12.1, (far1 Bk _ (.inl (by omega))).trans h12.2.1, fun j v hv => (far1 cb _ (.inr rfl)).trans (h12.2.2 j v hv)⟩
              have hfz : w1.frozen? ⟨Bk, b * 5, none⟩ = false := by
                rw [hgrow.frozen_far ⟨Bk, b * 5, none⟩ (by show Bk < _; omega) (fun e => by have e1 := own_ge hov Bk e.symm; omega), B12.frozen (p := ⟨Bk, b * 5, none⟩) tl.2.1]
                exact HLd.out.fz b hb
              refine ⟨fun _ => h13, ?_⟩
              simp only [Act.put, List.setIfInBounds_toArray, List.set_cons_zero, List.set_cons_succ]
              have hc13 := h13.2.1
              refine E_one (i := 13) (by kernel_rfl) rfl rfl ?_
              refine wp_value (d := some 83) (v := .pointer (some ⟨Bk, b * 5, none⟩)) (w' := w1) rfl (by go_simp) ?_
              refine ⟨fun _ => h13, ?_⟩
              simp only [Act.put, List.setIfInBounds_toArray, List.set_cons_zero, List.set_cons_succ]
              refine E_one (i := 14) (by kernel_rfl) rfl rfl ?_
              refine wp_value (d := some 84) (v := .pointer (some ⟨Bk, b * 5, none⟩)) (w' := w1) rfl (by go_simp) ?_
              refine ⟨fun _ => h13, ?_⟩
              simp only [Act.put, List.setIfInBounds_toArray, List.set_cons_zero, List.set_cons_succ]
              refine E_one (i := 15) (by kernel_rfl) rfl rfl ?_
              refine wp_none (w' := w1.setCell ⟨Bk, b * 5, none⟩ (.slice (some ⟨g, 0, none⟩) ((E b).length + 1) cp)) rfl (by go_simp) ?_
              refine ⟨(fun h => by cases h), E_done (by kernel_rfl) (NoPanic.normal ?_)⟩
              have HN : Hid (LInv w s n T Bk (k + 1) (w1.setCell ⟨Bk, b * 5, none⟩ (.slice (some ⟨g, 0, none⟩) ((E b).length + 1) cp)) (fun j => if j = b then .slice (some ⟨g, 0, none⟩) ((E b).length + 1) cp else V j) (fun j => if j = b then E b ++ [(x, Port k)] else E j)) := HLd.out.next hb hgrow hown hat
              go_wp2_with fail
              go_roundg (len - (k + 1))
              case measure => omega
              case rel => exact ⟨k + 1, _, _, by omega, by go_num, HN.out⟩
      · have hkl : k = len := by omega
        subst hkl
        clear hlt
        have HLw : Hid (LInv w s n T Bk k (wr.alloc (.cells (con zid 0).toArray 46)) V E) := HL.out.below ((Below.refl _ _).alloc (Nat.le_refl _) _)
        have HF : Hid (Fresh (wr.alloc (.cells (con zid 0).toArray 46)) wr.heap.size) := alloc46 wr
        have HB0 : Hid (Below wr.heap.size wr (wr.alloc (.cells (con zid 0).toArray 46))) := (Below.refl _ _).alloc (Nat.le_refl _) _
        have HZ : Hid ((wr.alloc (.cells (con zid 0).toArray 46)).heap.size = wr.heap.size + 1) := (by simp : (wr.alloc (.cells (con zid 0).toArray 46)).heap.size = wr.heap.size + 1)
        go_upto_region 15 with fail
        show Code.wp _ _ _ _ (wr.alloc (.cells (con zid 0).toArray 46))
        generalize wr.alloc (.cells (con zid 0).toArray 46) = W0 at HLw HF HB0 HZ ⊢
        go_cut [93] from 86 (fun t W => ∃ B : Bool, t = .bool B ∧ W = W0 ∧ (B = true → 0 < k))
        case first =>
          by_cases hk0 : (0 : Int) < (k : Int)
          · by_cases hp4 : pick % 4 = 0
            · go_wp2_with fail
              go_meet
              case rel => exact ⟨_, rfl, rfl, fun _ => by omega⟩
            · go_wp2_with fail
              go_meet
              case rel => exact ⟨_, rfl, rfl, fun _ => by omega⟩
          · go_wp2_with fail
            go_meet
            case rel => exact ⟨false, rfl, rfl, fun h => by cases h⟩
        case rest =>
          obtain ⟨B, rfl, rfl, hB⟩ := hcut
          go_upto_if 93 with fail
          have hsw := HL.out.sz
          go_cut [22] from 86 (fun t W => ∃ y q, C8 wr W wr.heap.size y q)
          case first =>
            cases B
            · have qs : wc.rangeAt w.heap.size 0 (ids s) := HLw.out.self
              go_wp2_with (first | (refine wpList_load_mid rfl 22 _ rfl w.heap.size 0 rfl (ids s) _ qs Yba.underlying22 rfl (info22l s) ?_) | (go_at_call 6; refine (mkId s qpos qlow HS.out qp0 qp1 ql0 ql1 _).mono ?_; rintro e w1 ⟨y, rfl, by1, hb1⟩) | (go_at_call 7; refine (addrPortFrom qport _).mono ?_; rintro e w2 ⟨rfl, hb2⟩) | (refine wpList_run rfl (exec_build (t := 46) (cs := con y qport) rfl (by kernel_rfl) _) ?_) | (refine wpList_store_mid rfl 46 _ _ rfl wr.heap.size 0 (con y qport).toArray rfl rfl ((HF.out.below (hb1.trans (hb2.mono hb1.size)) HF.out.lt).there y qport) (info46l y qport) (all_oneCell_toArray (con_cell y _)) ?_))
              go_meet
              case rel => exact ⟨y, qport, C8.mk' (HB0.out.trans ((hb1.trans (hb2.mono hb1.size)).mono (by have := HZ.out; omega))) (HF.out.below (hb1.trans (hb2.mono hb1.size)) HF.out.lt) (Nat.le_refl _) by1⟩
            · have hk1 : 0 < k := hB rfl
              obtain ⟨i0, hi0⟩ : ∃ i0 : Nat, pick % (k : Int) = (i0 : Int) := ⟨(pick % (k : Int)).toNat, by have := Int.emod_nonneg pick (b := (k : Int)) (by omega); omega⟩
              have hi1 : i0 < k := by have := Int.emod_lt_of_pos pick (b := (k : Int)) (by omega); omega
              have hi2 : (i0 : Int) < (k : Int) := by omega
              have hi3 : (0 : Int) ≤ (i0 : Int) := Int.natCast_nonneg _
              have hk2 : ¬ (k : Int) = 0 := by omega
              have hit := HI.out i0 hi1
              have HT : Hid (Item w ib io i0 (Pos i0) (Low i0) (Port i0) (Slot i0) (Mis i0)) := hit
              have ibl : ib < w.heap.size := World.block_lt_of_cell? w _ hit.c0
              have c0 : wc.cell? ⟨ib, io + i0 * 5, none⟩ = some (.int .u8 (Pos i0)) := by rw [HLw.out.bel.cell (p := ⟨ib, _, none⟩) ibl]; exact hit.c0
              have c1 : wc.cell? ⟨ib, io + i0 * 5 + 1, none⟩ = some (.int .u8 (Low i0)) := by rw [HLw.out.bel.cell (p := ⟨ib, _, none⟩) ibl]; exact hit.c1
              have c2 : wc.cell? ⟨ib, io + i0 * 5 + 2, none⟩ = some (.int .u16 (Port i0)) := by rw [HLw.out.bel.cell (p := ⟨ib, _, none⟩) ibl]; exact hit.c2
              have c3 : wc.cell? ⟨ib, io + i0 * 5 + 3, none⟩ = some (.int .u8 (Slot i0)) := by rw [HLw.out.bel.cell (p := ⟨ib, _, none⟩) ibl]; exact hit.c3
              have c4 : wc.cell? ⟨ib, io + i0 * 5 + 4, none⟩ = some (.bool (Mis i0)) := by rw [HLw.out.bel.cell (p := ⟨ib, _, none⟩) ibl]; exact hit.c4
              clear hit
              go_upto_region 17 with fail
              show Code.wp _ _ _ _ (wc.alloc (.cells #[.int .u8 (Pos i0), .int .u8 (Low i0), .int .u16 (Port i0), .int .u8 (Slot i0), .bool (Mis i0)] 32))
              have HBi : Hid (Below wc.heap.size wc (wc.alloc (.cells #[.int .u8 (Pos i0), .int .u8 (Low i0), .int .u16 (Port i0), .int .u8 (Slot i0), .bool (Mis i0)] 32))) := (Below.refl _ _).alloc (Nat.le_refl _) _
              have HZi : Hid ((wc.alloc (.cells #[.int .u8 (Pos i0), .int .u8 (Low i0), .int .u16 (Port i0), .int .u8 (Slot i0), .bool (Mis i0)] 32)).heap.size = wc.heap.size + 1) := (by simp : (wc.alloc (.cells #[.int .u8 (Pos i0), .int .u8 (Low i0), .int .u16 (Port i0), .int .u8 (Slot i0), .bool (Mis i0)] 32)).heap.size = wc.heap.size + 1)
              have i0' : (wc.alloc (.cells #[.int .u8 (Pos i0), .int .u8 (Low i0), .int .u16 (Port i0), .int .u8 (Slot i0), .bool (Mis i0)] 32)).cell? ⟨wc.heap.size, 0, none⟩ = some (.int .u8 (Pos i0)) := by rw [cell_of_row _ _ 0 _ 32 _ (heap_alloc_new wc _)]; rfl
              have i1' : (wc.alloc (.cells #[.int .u8 (Pos i0), .int .u8 (Low i0), .int .u16 (Port i0), .int .u8 (Slot i0), .bool (Mis i0)] 32)).cell? ⟨wc.heap.size, 1, none⟩ = some (.int .u8 (Low i0)) := by rw [cell_of_row _ _ 1 _ 32 _ (heap_alloc_new wc _)]; rfl
              have i2' : (wc.alloc (.cells #[.int .u8 (Pos i0), .int .u8 (Low i0), .int .u16 (Port i0), .int .u8 (Slot i0), .bool (Mis i0)] 32)).cell? ⟨wc.heap.size, 2, none⟩ = some (.int .u16 (Port i0)) := by rw [cell_of_row _ _ 2 _ 32 _ (heap_alloc_new wc _)]; rfl
              generalize wc.alloc (.cells #[.int .u8 (Pos i0), .int .u8 (Low i0), .int .u16 (Port i0), .int .u8 (Slot i0), .bool (Mis i0)] 32) = wi at HBi HZi i0' i1' i2' ⊢
              have zz := HZi.out
              have zy := HZ.out
              refine E_region (fun i => i == 11) (fun w' => Below wi.heap.size wi w') (by kernel_rfl) ?_
              have hd : Below wi.heap.size wi wi.drew := (Below.refl _ _).drew
              refine E_load (i := 0) (d := some 102) rfl (by kernel_rfl) (by kernel_rfl) (by kernel_rfl) (by kernel_rfl) rfl rfl 22 _ rfl w.heap.size 0 rfl (ids s) _ (fun w' h => rangeAt_below h (by omega) (rangeAt_below HBi.out (by omega) HLw.out.self)) Yba.underlying22 rfl (info22l s) hd ?_
              simp only [Act.put, List.setIfInBounds_toArray, List.set_cons_zero, List.set_cons_succ]
              refine E_take (i := 1) (d := some 103) (v := .pointer (some ⟨wc.heap.size, 0, none⟩)) rfl (by kernel_rfl) (by kernel_rfl) (by kernel_rfl) (by kernel_rfl) rfl rfl (fun w' _ => by go_simp) hd ?_
              simp only [Act.put, List.setIfInBounds_toArray, List.set_cons_zero, List.set_cons_succ]
              refine E_take (i := 2) (d := some 104) (v := .int .u8 (Pos i0)) rfl (by kernel_rfl) (by kernel_rfl) (by kernel_rfl) (by kernel_rfl) rfl rfl (fun w' h => by have c := (h.cell (p := ⟨wc.heap.size, 0, none⟩) (by show wc.heap.size < _; omega)).trans i0'; clear zz zy; go_simp) hd ?_
              simp only [Act.put, List.setIfInBounds_toArray, List.set_cons_zero, List.set_cons_succ]
              refine E_take (i := 3) (d := some 105) (v := .pointer (some ⟨wc.heap.size, 1, none⟩)) rfl (by kernel_rfl) (by kernel_rfl) (by kernel_rfl) (by kernel_rfl) rfl rfl (fun w' _ => by go_simp) hd ?_
              simp only [Act.put, List.setIfInBounds_toArray, List.set_cons_zero, List.set_cons_succ]
              refine E_take (i := 4) (d := some 106) (v := .int .u8 (Low i0)) rfl (by kernel_rfl) (by kernel_rfl) (by kernel_rfl) (by kernel_rfl) rfl rfl (fun w' h => by have c := (h.cell (p := ⟨wc.heap.size, 1, none⟩) (by show wc.heap.size < _; omega)).trans i1'; clear zz zy; go_simp) hd ?_
              simp only [Act.put, List.setIfInBounds_toArray, List.set_cons_zero, List.set_cons_succ]
              refine E_take (i := 6) (d := some 108) (v := .agg #[.int .u64 0, .int .u64 0, .pointer none]) rfl (by kernel_rfl) (by kernel_rfl) (by kernel_rfl) (by kernel_rfl) rfl rfl (fun w' _ => exec_build (cs := [.int .u64 0, .int .u64 0, .pointer none]) rfl (by kernel_rfl) w') hd ?_
              simp only [Act.put, List.setIfInBounds_toArray, List.set_cons_zero, List.set_cons_succ]
              refine E_take (i := 7) (d := some 109) (v := .pointer (some ⟨wc.heap.size, 2, none⟩)) rfl (by kernel_rfl) (by kernel_rfl) (by kernel_rfl) (by kernel_rfl) rfl rfl (fun w' _ => by go_simp) hd ?_
              simp only [Act.put, List.setIfInBounds_toArray, List.set_cons_zero, List.set_cons_succ]
              refine E_take (i := 8) (d := some 110) (v := .int .u16 (Port i0)) rfl (by kernel_rfl) (by kernel_rfl) (by kernel_rfl) (by kernel_rfl) rfl rfl (fun w' h => by have c := (h.cell (p := ⟨wc.heap.size, 2, none⟩) (by show wc.heap.size < _; omega)).trans i2'; clear zz zy; go_simp) hd ?_
              simp only [Act.put, List.setIfInBounds_toArray, List.set_cons_zero, List.set_cons_succ]
              refine E_one (i := 5) (by kernel_rfl) rfl rfl ?_
              refine wp_call (d := some 107) (f := 6) (args := #[idV s, .int .u8 (Pos i0), .int .u8 (Low i0)]) (R := fun v w1 => ∃ x, v = idV x ∧ Bytes x ∧ Below wi.drew.heap.size wi.drew w1) rfl (by unfold idV; go_simp) ((mkId s (Pos i0) (Low i0) HS.out HT.out.p0.1 HT.out.p0.2 HT.out.l0.1 HT.out.l0.2 wi.drew).mono fun e w' ⟨x, he, hx, hb⟩ => ⟨_, he, x, rfl, hx, hb⟩) ?_
              rintro v w1 ⟨x, rfl, bx, hb1⟩
              have B1 : Below wi.heap.size wi w1 := hd.trans hb1
              refine ⟨fun _ => B1, ?_⟩
              unfold idV
              simp only [Act.put, List.setIfInBounds_toArray, List.set_cons_zero, List.set_cons_succ]
              refine E_one (i := 9) (by kernel_rfl) rfl rfl ?_
              refine wp_call (d := some 111) (f := 7) (args := #[.agg #[.int .u64 0, .int .u64 0, .pointer none], .int .u16 (Port i0)]) (R := fun v w2 => v = .agg (adr (Port i0)).toArray ∧ Below w1.heap.size w1 w2) rfl (by go_simp) ((addrPortFrom (Port i0) w1).mono fun e w' ⟨he, hb⟩ => ⟨_, he, rfl, hb⟩) ?_
              rintro v w2 ⟨rfl, hb2⟩
              have B2 : Below wi.heap.size wi w2 := B1.trans (hb2.mono B1.size)
              refine ⟨fun _ => B2, ?_⟩
              simp only [Act.put, List.setIfInBounds_toArray, List.set_cons_zero, List.set_cons_succ]
              refine E_take (i := 10) (d := some 112) (v := .agg (con x (Port i0)).toArray) rfl (by kernel_rfl) (by kernel_rfl) (by kernel_rfl) (by kernel_rfl) rfl rfl (fun w' _ => exec_build rfl (by kernel_rfl) w') B2 ?_
              simp only [Act.put, List.setIfInBounds_toArray, List.set_cons_zero, List.set_cons_succ]
              have B3 : Below wc.heap.size wc w2 := HBi.out.trans (B2.mono (by omega))
              have F3 : Fresh w2 wr.heap.size := HF.out.below B3 HF.out.lt
              refine E_one (i := 11) (by kernel_rfl) rfl rfl ?_
              refine wp_store rfl 46 _ _ rfl wr.heap.size 0 (con x (Port i0)) rfl rfl (F3.there x _) (info46l x _) (con_cell x _) ?_
              refine ⟨(fun h => by cases h), E_done (by kernel_rfl) (NoPanic.normal ?_)⟩
              go_wp2_with fail
              go_meet
              case rel => exact ⟨x, _, C8.mk' (HB0.out.trans (B3.mono (by omega))) F3 (Nat.le_refl _) bx⟩
          case rest =>
            obtain ⟨y, q, hC⟩ := hcut
            have HC : Hid (C8 wr wc wr.heap.size y q) := hC
            clear hC
            have HLc : Hid (LInv w s n T Bk k wc V E) := HL.out.below HC.out.bel
            have hbk := bk_lt y s n n0
            have hb0 : (0 : Int) ≤ ((bk y s n : Nat) : Int) := Int.natCast_nonneg _
            have hb1 : ((bk y s n : Nat) : Int) < (n : Int) := by omega
            have hcnt := HLc.out.cnt _ hbk
            have hk1024 : k ≤ 1024 := by omega
            have tl := HLc.out.tlt
            have rc := HC.out.con
            have HRc : Hid (wc.rangeAt wr.heap.size 0 (con y q)) := rc
            rcases Nat.eq_zero_or_pos (E (bk y s n)).length with hE | hE
            · obtain ⟨a, c, hv⟩ := row_zero (by have h := HLc.out.own _ hbk; rw [hE] at h; exact h)
              have HV : Hid (wc.cell? ⟨Bk, bk y s n * 5, none⟩ = some (.slice a 0 c)) := (HLc.out.ev _ hbk).trans (congrArg some hv)
              clear hv hE hcnt
              go_upto_region 19 with fail
              go_cut [23] from 86 (fun t W => t = .pointer none ∧ Below wc.heap.size wc W)
              case first =>
                go_wp2_with (first | (refine wpList_load_mid rfl 46 _ rfl wr.heap.size 0 rfl (con y q) _ rc Yba.underlying46 rfl (info46l y q) ?_) | (go_at_call 9; refine (entry0 T Bk n c a s y q HS.out HC.out.by_ _ (IdAt.of_range HLc.out.tid) HLc.out.c20 n0 n1 HV.out).mono ?_; rintro e w' ⟨rfl, hb9⟩))
                go_meet
                case rel => exact ⟨rfl, hb9⟩
              case rest =>
                obtain ⟨rfl, hb9⟩ := hcut
                have HL3 : Hid (LInv w s n T Bk k wc V E) := HLc.out.below hb9
                have q1 := con_ids (rangeAt_below hb9 (con_lt HRc.out) HRc.out)
                have q2 := HL3.out.tid
                have HV3 : Hid (wc.cell? ⟨Bk, bk y s n * 5, none⟩ = some (.slice a 0 c)) := (hb9.cell (p := ⟨Bk, bk y s n * 5, none⟩) tl.2.1).trans HV.out
                clear hb9 rc
                go_upto_region 20 with fail
                go_cut [24] from 86 (fun t W => t = .int .i64 (bk y s n : Nat) ∧ Below wc.heap.size wc W)
                case first =>
                  go_wp2_with (first | (refine wpList_load_mid rfl 25 _ rfl wr.heap.size 0 rfl (ids y) _ q1 Yba.underlying25 rfl (info25l y) ?_) | (refine wpList_load_mid rfl 25 _ rfl T 0 rfl (ids s) _ q2 Yba.underlying25 rfl (info25l s) ?_) | (go_at_call 8; refine (ashared' y s _).mono ?_; rintro e w' ⟨rfl, hb8⟩))
                  all_goals
                    go_meet
                    case rel => exact ⟨ret9 (by unfold bk; omega), hb8⟩
                case rest =>
                  obtain ⟨rfl, hb8⟩ := hcut
                  have HL4 : Hid (LInv w s n T Bk k wc V E) := HL3.out.below hb8
                  have h20 := HL4.out.c20
                  have hvc : wc.cell? ⟨Bk, bk y s n * 5, none⟩ = some (.slice a 0 c) := (hb8.cell (p := ⟨Bk, bk y s n * 5, none⟩) HL3.out.tlt.2.1).trans HV3.out
                  clear hb8 q1 q2
                  go_wp2_with fail
                  go_loopg [26] 0 (fun r t W => t = .int .i64 0 ∧ W = wc)
                  case atStart => exact ⟨rfl, rfl⟩
                  case round =>
                    obtain ⟨rfl, rfl⟩ := hrel
                    go_wp2_with fail
                    go_ret
                    exact ⟨rfl, HL4.out.bel⟩
            · obtain ⟨g, c, hv, hrow⟩ := row_range (HLc.out.own _ hbk) hE
              generalize hX : eX (E (bk y s n)) = X at hrow
              generalize hP : eP (E (bk y s n)) = Pp at hrow
              generalize hLL : (E (bk y s n)).length = L at hrow hv hE hcnt
              clear hX hP hLL
              have HRow : Hid (∀ j, j < L → wc.rangeAt g (j * 31) (ent (X j) (Pp j))) := hrow
              have HV : Hid (wc.cell? ⟨Bk, bk y s n * 5, none⟩ = some (.slice (some ⟨g, 0, none⟩) L c)) := (HLc.out.ev _ hbk).trans (congrArg some hv)
              clear hv hrow
              have hL1 : L ≤ 1024 := by omega
              go_upto_region 19 with fail
              go_cut [23] from 86 (fun t W => Got g L X Pp y q t ∧ Below wc.heap.size wc W)
              case first =>
                go_wp2_with (first | (refine wpList_load_mid rfl 46 _ rfl wr.heap.size 0 rfl (con y q) _ rc Yba.underlying46 rfl (info46l y q) ?_) | (go_at_call 9; refine (got T Bk n g c L X Pp s y q HS.out HC.out.by_ _ hL1 (IdAt.of_range HLc.out.tid) HLc.out.c20 n0 n1 HV.out HRow.out).mono ?_; rintro e w' ⟨v, rfl, hg, hb9⟩))
                go_meet
                case rel => exact ⟨hg, hb9⟩
              case rest =>
                obtain ⟨hg, hb9⟩ := hcut
                have HG := hid_intro hg
                clear hg
                have HL3 : Hid (LInv w s n T Bk k wc V E) := HLc.out.below hb9
                have HR3 : Hid (wc.rangeAt wr.heap.size 0 (con y q)) := rangeAt_below hb9 (con_lt HRc.out) HRc.out
                have HRow3 : Hid (∀ j, j < L → wc.rangeAt g (j * 31) (ent (X j) (Pp j))) := fun j hj => rangeAt_below hb9 (ent_lt (HRow.out j hj)) (HRow.out j hj)
                have q1 := con_ids HR3.out
                have q2 := HL3.out.tid
                have HV3 : Hid (wc.cell? ⟨Bk, bk y s n * 5, none⟩ = some (.slice (some ⟨g, 0, none⟩) L c)) := (hb9.cell (p := ⟨Bk, bk y s n * 5, none⟩) tl.2.1).trans HV.out
                clear hb9 rc
                go_upto_region 20 with fail
                go_cut [24] from 86 (fun t W => t = .int .i64 (bk y s n : Nat) ∧ Below wc.heap.size wc W)
                case first =>
                  go_wp2_with (first | (refine wpList_load_mid rfl 25 _ rfl wr.heap.size 0 rfl (ids y) _ q1 Yba.underlying25 rfl (info25l y) ?_) | (refine wpList_load_mid rfl 25 _ rfl T 0 rfl (ids s) _ q2 Yba.underlying25 rfl (info25l s) ?_) | (go_at_call 8; refine (ashared' y s _).mono ?_; rintro e w' ⟨rfl, hb8⟩))
                  all_goals
                    go_meet
                    case rel => exact ⟨ret9 (by unfold bk; omega), hb8⟩
                case rest =>
                  obtain ⟨rfl, hb8⟩ := hcut
                  have HL4 : Hid (LInv w s n T Bk k wc V E) := HL3.out.below hb8
                  have HR4 : Hid (wc.rangeAt wr.heap.size 0 (con y q)) := rangeAt_below hb8 (con_lt HR3.out) HR3.out
                  have HRow4 : Hid (∀ j, j < L → wc.rangeAt g (j * 31) (ent (X j) (Pp j))) := fun j hj => rangeAt_below hb8 (ent_lt (HRow3.out j hj)) (HRow3.out j hj)
                  have h20 := HL4.out.c20
                  have hvc : wc.cell? ⟨Bk, bk y s n * 5, none⟩ = some (.slice (some ⟨g, 0, none⟩) L c) := (hb8.cell (p := ⟨Bk, bk y s n * 5, none⟩) HL3.out.tlt.2.1).trans HV3.out
                  clear hb8 q1 q2
                  go_wp2_with fail
                  go_loopg [26] L (fun r t W => ∃ j : Nat, j + r = L ∧ t = .int .i64 (j : Nat) ∧ Below wc.heap.size wc W ∧ NoHit X Pp y q j)
                  case atStart => exact ⟨0, by omega, rfl, Below.refl _ _, fun j hj => by omega⟩
                  case round =>
                    obtain ⟨j, hj, rfl, hbW, hno⟩ := hrel
                    have HBW := hid_intro (And.intro hbW hno)
                    by_cases hlt : (j : Int) < (L : Int)
                    · have hjl : j < L := by omega
                      have hj0 : (0 : Int) ≤ (j : Int) := Int.natCast_nonneg _
                      have r1 : wr.rangeAt g (j * 31) (ent (X j) (Pp j)) := rangeAt_below hbW (ent_lt (HRow4.out j hjl)) (HRow4.out j hjl)
                      have r2 := rangeAt_below hbW (con_lt HR4.out) HR4.out
                      have r1c := ent_con _ _ _ _ _ r1
                      have r1i := con_ids r1c
                      have r1a := con_adrs r1c
                      have r2i := con_ids r2
                      have r2a := con_adrs r2
                      have gl := ent_lt r1
                      have cl := con_lt r2
                      clear hbW hno r1 r2 r1c
                      go_upto_region 25 with fail
                      refine wp_region_class (fun w' => Below wr.heap.size wr w') (by kernel_rfl) (by kernel_rfl) (Below.refl _ _).drew ?_
                      cases hid : idEq (X j) y
                      · go_big_quiet_step ((intro _; rfl))
                        go_big_quiet_step ((intro _; rfl))
                        go_big_quiet_step ((intro _; rfl))
                        go_big_quiet_step ((intro _; rfl))
                        go_big_quiet_step ((intro _; rfl))
                        refine q_load rfl 25 _ rfl g (j * 31) rfl (ids (X j)) _ (fun w' h => rangeAt_below h gl r1i) Yba.underlying25 rfl (info25l (X j)) ?_
                        simp only [Act.put, List.setIfInBounds_toArray, List.set_cons_zero, List.set_cons_succ]
                        go_big_quiet_step ((intro _; rfl))
                        refine q_load rfl 25 _ rfl _ 0 rfl (ids y) _ (fun w' h => rangeAt_below h cl r2i) Yba.underlying25 rfl (info25l y) ?_
                        simp only [Act.put, List.setIfInBounds_toArray, List.set_cons_zero, List.set_cons_succ]
                        refine q_take rfl (v := .bool (idEq (X j) y)) (fun w' _ => exec_eql rfl rfl rfl g25 (eql25 (X j) y w')) ?_
                        simp only [Act.put, List.setIfInBounds_toArray, List.set_cons_zero, List.set_cons_succ]
                        rw [hid]
                        go_big_quiet_step ((intro _; rfl))
                        go_big_quiet_step ((intro _; rfl))
                        go_big_quiet_step ((intro _; rfl))
                        go_big_quiet_step ((intro _; rfl))
                        go_big_quiet_step ((intro _; rfl))
                        go_big_quiet_step ((intro _; rfl))
                        go_big_quiet_step ((intro _; rfl))
                        go_big_quiet_step ((intro _; rfl))
                        go_big_quiet_step ((intro _; rfl))
                        go_big_quiet_step ((intro _; rfl))
                        go_big_quiet_step ((intro _; rfl))
                        refine wpQuiet_nil ?_
                        intro w2 h2
                        have H2 := hid_intro h2
                        clear h2
                        go_wp2_with fail
                        go_roundg (L - (j + 1))
                        case measure => omega
                        case rel => exact ⟨j + 1, by omega, by go_num, HBW.out.1.trans (H2.out.mono HBW.out.1.size), noHit_next HBW.out.2 (by unfold hit; rw [hid]; rfl)⟩
                      · cases hpq : (Pp j == q)
                        · go_big_quiet_step ((intro _; rfl))
                          go_big_quiet_step ((intro _; rfl))
                          go_big_quiet_step ((intro _; rfl))
                          go_big_quiet_step ((intro _; rfl))
                          go_big_quiet_step ((intro _; rfl))
                          refine q_load rfl 25 _ rfl g (j * 31) rfl (ids (X j)) _ (fun w' h => rangeAt_below h gl r1i) Yba.underlying25 rfl (info25l (X j)) ?_
                          simp only [Act.put, List.setIfInBounds_toArray, List.set_cons_zero, List.set_cons_succ]
                          go_big_quiet_step ((intro _; rfl))
                          refine q_load rfl 25 _ rfl _ 0 rfl (ids y) _ (fun w' h => rangeAt_below h cl r2i) Yba.underlying25 rfl (info25l y) ?_
                          simp only [Act.put, List.setIfInBounds_toArray, List.set_cons_zero, List.set_cons_succ]
                          refine q_take rfl (v := .bool (idEq (X j) y)) (fun w' _ => exec_eql rfl rfl rfl g25 (eql25 (X j) y w')) ?_
                          simp only [Act.put, List.setIfInBounds_toArray, List.set_cons_zero, List.set_cons_succ]
                          rw [hid]
                          go_big_quiet_step ((intro _; rfl))
                          go_big_quiet_step ((intro _; rfl))
                          go_big_quiet_step ((intro _; rfl))
                          go_big_quiet_step ((intro _; rfl))
                          go_big_quiet_step ((intro _; rfl))
                          go_big_quiet_step ((intro _; rfl))
                          refine q_load rfl 43 _ rfl g (j * 31 + 20) rfl (adr (Pp j)) _ (fun w' h => rangeAt_below h gl r1a) Yba.underlying43 rfl info43 ?_
                          simp only [Act.put, List.setIfInBounds_toArray, List.set_cons_zero, List.set_cons_succ]
                          go_big_quiet_step ((intro _; rfl))
                          refine q_load rfl 43 _ rfl _ 20 rfl (adr q) _ (fun w' h => rangeAt_below h cl r2a) Yba.underlying43 rfl info43 ?_
                          simp only [Act.put, List.setIfInBounds_toArray, List.set_cons_zero, List.set_cons_succ]
                          refine q_take rfl (v := .bool (Pp j == q)) (fun w' _ => exec_eql rfl rfl rfl g43 (eql43 (Pp j) q w')) ?_
                          simp only [Act.put, List.setIfInBounds_toArray, List.set_cons_zero, List.set_cons_succ]
                          rw [hpq]
                          go_big_quiet_step ((intro _; rfl))
                          refine wpQuiet_nil ?_
                          intro w2 h2
                          have H2 := hid_intro h2
                          clear h2
                          go_wp2_with fail
                          go_roundg (L - (j + 1))
                          case measure => omega
                          case rel => exact ⟨j + 1, by omega, by go_num, HBW.out.1.trans (H2.out.mono HBW.out.1.size), noHit_next HBW.out.2 (by unfold hit; rw [hid, hpq]; rfl)⟩
                        · go_big_quiet_step ((intro _; rfl))
                          go_big_quiet_step ((intro _; rfl))
                          go_big_quiet_step ((intro _; rfl))
                          go_big_quiet_step ((intro _; rfl))
                          go_big_quiet_step ((intro _; rfl))
                          refine q_load rfl 25 _ rfl g (j * 31) rfl (ids (X j)) _ (fun w' h => rangeAt_below h gl r1i) Yba.underlying25 rfl (info25l (X j)) ?_
                          simp only [Act.put, List.setIfInBounds_toArray, List.set_cons_zero, List.set_cons_succ]
                          go_big_quiet_step ((intro _; rfl))
                          refine q_load rfl 25 _ rfl _ 0 rfl (ids y) _ (fun w' h => rangeAt_below h cl r2i) Yba.underlying25 rfl (info25l y) ?_
                          simp only [Act.put, List.setIfInBounds_toArray, List.set_cons_zero, List.set_cons_succ]
                          refine q_take rfl (v := .bool (idEq (X j) y)) (fun w' _ => exec_eql rfl rfl rfl g25 (eql25 (X j) y w')) ?_
                          simp only [Act.put, List.setIfInBounds_toArray, List.set_cons_zero, List.set_cons_succ]
                          rw [hid]
                          go_big_quiet_step ((intro _; rfl))
                          go_big_quiet_step ((intro _; rfl))
                          go_big_quiet_step ((intro _; rfl))
                          go_big_quiet_step ((intro _; rfl))
                          go_big_quiet_step ((intro _; rfl))
                          go_big_quiet_step ((intro _; rfl))
                          refine q_load rfl 43 _ rfl g (j * 31 + 20) rfl (adr (Pp j)) _ (fun w' h => rangeAt_below h gl r1a) Yba.underlying43 rfl info43 ?_
                          simp only [Act.put, List.setIfInBounds_toArray, List.set_cons_zero, List.set_cons_succ]
                          go_big_quiet_step ((intro _; rfl))
                          refine q_load rfl 43 _ rfl _ 20 rfl (adr q) _ (fun w' h => rangeAt_below h cl r2a) Yba.underlying43 rfl info43 ?_
                          simp only [Act.put, List.setIfInBounds_toArray, List.set_cons_zero, List.set_cons_succ]
                          refine q_take rfl (v := .bool (Pp j == q)) (fun w' _ => exec_eql rfl rfl rfl g43 (eql43 (Pp j) q w')) ?_
                          simp only [Act.put, List.setIfInBounds_toArray, List.set_cons_zero, List.set_cons_succ]
                          rw [hpq]
                          go_big_quiet_step ((intro _; rfl))
                          refine wpQuiet_nil ?_
                          intro w2 h2
                          have H2 := hid_intro h2
                          clear h2
                          have hgot := Got.at HG.out hjl (by unfold hit; rw [hid, hpq]; rfl) HBW.out.2
                          subst hgot
                          have hsame : ∀ w' : World, (binOp .eql 56 (.pointer (some ⟨g, j * 31, none⟩)) (.pointer (some ⟨g, j * 31, none⟩))).run Yba.prog w' = .ok (.bool true) w' := same55 g (j * 31)
                          go_wp2_with fail
                          go_ret
                          exact ⟨rfl, HL4.out.bel.trans ((HBW.out.1.trans (H2.out.mono HBW.out.1.size)).mono (by have := HL4.out.sz; omega))⟩
                    · have e : j = L := by omega
                      subst e
                      clear hbW hno
                      have hgot := Got.none HG.out HBW.out.2
                      subst hgot
                      go_wp2_with fail
                      go_ret
                      exact ⟨rfl, HL4.out.bel.trans (HBW.out.1.mono (by have := HL4.out.sz; omega))⟩
end Go.Proofs.Ybulkcucc
