/-
  THE CONTRACTS OF zzs4786aid (6) AND netip.AddrPortFrom (7).
-/
import Derived.Test.YbulkcuccEntry
namespace Go.Proofs.Ybulkcucc
open Go.RowKit
set_option linter.unusedVariables false

set_option maxRecDepth 100000 in
set_option maxHeartbeats 800000 in
theorem addrPortFrom (p : Int) (w : World) :
    Calls Yba.prog 7 #[.agg #[.int .u64 0, .int .u64 0, .pointer none], .int .u16 p] w fun e w' => e = .returned (.agg (adr p).toArray) ∧ Below w.heap.size w w' := by
  go_enter Yba.func7, Yba.ntmps7
  go_wp2
  exact bodyPost_ret (v := .agg (adr p).toArray) (by simp [results, Yba.results7, go_sem, adr]) rfl ⟨rfl, ((Below.refl _ _).alloc (Nat.le_refl _) _).alloc (by simp) _⟩

theorem heap3_2 (w : World) (A B C : Obj) : (((w.alloc A).alloc B).alloc C).heap[w.heap.size + 1 + 1]? = some C := by
  have := heap_alloc2_new (w.alloc A) B C
  simpa using this
theorem heap3_1 (w : World) (A B C : Obj) : (((w.alloc A).alloc B).alloc C).heap[w.heap.size + 1]? = some B := by
  rw [Below.heap_alloc _ _ _ (by simp)]; exact heap_alloc2_new w A B
theorem info22 : (Yba.prog.info? 22).map (·.size) = some 20 := by kernel_rfl

/-- The world ahead of the first turn of the ID. -/
def mkW (w : World) (s : Nat → Int) : World := (((w.alloc (.cells (ids s).toArray 22)).alloc (.cells (ids zid).toArray 25)).alloc (.cells (ids zid).toArray 25)).setRow (w.heap.size + 1 + 1) (ids s).toArray
structure IInv (w W : World) (x : Nat → Int) : Prop where
  bel : Below w.heap.size w W
  r : Blk W (w.heap.size + 1) zid
  d : Blk W (w.heap.size + 1 + 1) x
  by_ : Bytes x
theorem IInv.start (w : World) (s : Nat → Int) (hs : Bytes s) : IInv w (mkW w s) s := by
  refine ⟨below_setRow ((((Below.refl _ _).alloc (Nat.le_refl _) _).alloc (by simp) _).alloc (by simp; omega) _) (by omega) _, ?_, ?_, hs⟩
  · show (World.setRow _ _ _).heap[w.heap.size + 1]? = _
    rw [setRow_other _ _ _ _ (by omega)]
    exact heap3_1 w _ _ _
  · exact setRow_heap _ _ _ _ _ _ (heap3_2 w _ _ _)
theorem xor_bd (a b : Int) (h0 : 0 ≤ a) (h1 : a ≤ 255) (g0 : 0 ≤ b) (g1 : b ≤ 255) : 0 ≤ bits .xor .u8 a b ∧ bits .xor .u8 a b ≤ 255 := by
  rw [u8_xor _ _ h0 (by omega) g0 (by omega)]
  have := Nat.xor_lt_two_pow (n := 8) (x := a.toNat) (y := b.toNat) (by omega) (by omega)
  omega
theorem IInv.turn {w W : World} {x : Nat → Int} (h : IInv w W x) (k : Nat) (hk : k < 20) (v : Int) (h0 : 0 ≤ v) (h1 : v ≤ 255) :
    IInv w (W.setCell ⟨w.heap.size + 1 + 1, k, none⟩ (.int .u8 (bits .xor .u8 (x k) v))) (upd x k (bits .xor .u8 (x k) v)) := by
  refine ⟨h.bel.setCell (by show w.heap.size ≤ w.heap.size + 1 + 1; omega) _, h.r.other _ _ (by show w.heap.size + 1 ≠ w.heap.size + 1 + 1; omega), h.d.set k _, fun i hi => ?_⟩
  unfold upd
  by_cases e : i = k
  · subst e; rw [if_pos rfl]; have := h.by_ i hi; exact xor_bd _ _ this.1 this.2 h0 h1
  · rw [if_neg e]; exact h.by_ i hi
theorem IInv.drew {w W : World} {x : Nat → Int} (h : IInv w W x) : IInv w W.drew x := ⟨h.bel.drew, h.r, h.d, h.by_⟩

set_option maxRecDepth 100000 in
set_option maxHeartbeats 800000 in
theorem mkId (s : Nat → Int) (pos low : Int) (hs : Bytes s) (h0 : 0 ≤ pos) (h1 : pos ≤ 255) (l0 : 0 ≤ low) (l1 : low ≤ 255) (w : World) :
    Calls Yba.prog 6 #[idV s, .int .u8 pos, .int .u8 low] w fun e w' => ∃ x, e = .returned (idV x) ∧ Bytes x ∧ Below w.heap.size w w' := by
  unfold idV
  obtain ⟨P, hP⟩ : ∃ P : Nat, pos % 161 = (P : Int) := ⟨(pos % 161).toNat, by omega⟩
  have HI : Hid (IInv w (mkW w s) s) := IInv.start w s hs
  by_cases hp : (P : Int) < 160
  · have p0 : (0 : Int) ≤ (P : Int) := Int.natCast_nonneg _
    go_enter Yba.func6, Yba.ntmps6
    go_wp2_with (first | (refine wpList_load_row rfl 22 _ rfl w.heap.size rfl 22 (ids s).toArray (0, 0) _ (heap_alloc2_old w _ _) Yba.underlying22 rfl (by rw [ids_size]; exact info22) ?_) | (refine wpList_store_row rfl 25 _ _ rfl (w.heap.size + 1 + 1) (ids s).toArray rfl rfl 25 (ids zid).toArray (heap3_2 w _ _ _) (by rw [ids_size]; exact info25) (by simp [ids]) (ids_one s) ?_))
    show Code.wp _ _ _ _ (mkW w s)
    generalize mkW w s = W at HI ⊢
    have e8 : ((P : Int) / 8).toNat = P / 8 := by omega
    have cx : W.cell? ⟨w.heap.size + 1 + 1, P / 8, none⟩ = some (.int .u8 (s (P / 8))) := HI.out.d.cell (P / 8) (by omega)
    have fx : W.frozen? ⟨w.heap.size + 1 + 1, P / 8, none⟩ = false := HI.out.d.frozen _
    have hw : IntKind.i64.wrap ((P : Int) / 8) = (P : Int) / 8 := by rw [IntKind.wrap_i64]; omega
    have q0 : (0 : Int) ≤ (P : Int) / 8 := by omega
    have q1 : (P : Int) / 8 < 20 := by omega
    go_region
    have hm : (0 : Int) ≤ 128 / 2 ^ (P % 8) ∧ (128 / 2 ^ (P % 8) : Int) ≤ 255 := by
      rw [mask_eq]
      have hle : (128 / 2 ^ (P % 8) : Nat) ≤ 128 := Nat.div_le_self _ _
      generalize (128 / 2 ^ (P % 8) : Nat) = m at hle ⊢
      omega
    have HJ : Hid (IInv w (W.setCell ⟨w.heap.size + 1 + 1, P / 8, none⟩ (.int .u8 (bits .xor .u8 (s (P / 8)) (128 / 2 ^ (P % 8))))).drew (upd s (P / 8) (bits .xor .u8 (s (P / 8)) (128 / 2 ^ (P % 8))))) := (HI.out.turn (P / 8) (by omega) _ hm.1 hm.2).drew
    generalize (W.setCell ⟨w.heap.size + 1 + 1, P / 8, none⟩ (.int .u8 (bits .xor .u8 (s (P / 8)) (128 / 2 ^ (P % 8))))).drew = V at HJ ⊢
    generalize upd s (P / 8) (bits .xor .u8 (s (P / 8)) (128 / 2 ^ (P % 8))) = x at HJ
    clear cx fx HI hm
    have c19 := HJ.out.d.cell 19 (by omega)
    have f19 := HJ.out.d.frozen 19
    have HT : Hid (IInv w (V.setCell ⟨w.heap.size + 1 + 1, 19, none⟩ (.int .u8 (bits .xor .u8 (x 19) low))) (upd x 19 (bits .xor .u8 (x 19) low))) := HJ.out.turn 19 (by omega) low l0 l1
    generalize hu : upd x 19 (bits .xor .u8 (x 19) low) = u at HT
    clear hu
    go_wp2_with (first | (refine wpList_load_row rfl 25 _ rfl (w.heap.size + 1 + 1) rfl 25 (ids u).toArray (0, 0) _ HT.out.d Yba.underlying25 rfl (by rw [ids_size]; exact info25) ?_) | (refine wpList_store_row rfl 25 _ _ rfl (w.heap.size + 1) (ids u).toArray rfl rfl 25 (ids zid).toArray HT.out.r (by rw [ids_size]; exact info25) (by simp [ids]) (ids_one u) ?_))
    exact bodyPost_ret (v := .agg (ids u).toArray) (results_cell_row Yba.results6 _ _ (w.heap.size + 1) 25 _ _ _ rfl (setRow_heap _ _ _ _ _ _ HT.out.r) Yba.underlying25 rfl (by rw [ids_size]; exact info25)) rfl ⟨u, rfl, HT.out.by_, below_setRow HT.out.bel (by omega) _⟩
  · have hp' : 160 ≤ (P : Int) := by omega
    clear hp
    have HJ := HI
    clear HI
    go_enter Yba.func6, Yba.ntmps6
    go_wp2_with (first | (refine wpList_load_row rfl 22 _ rfl w.heap.size rfl 22 (ids s).toArray (0, 0) _ (heap_alloc2_old w _ _) Yba.underlying22 rfl (by rw [ids_size]; exact info22) ?_) | (refine wpList_store_row rfl 25 _ _ rfl (w.heap.size + 1 + 1) (ids s).toArray rfl rfl 25 (ids zid).toArray (heap3_2 w _ _ _) (by rw [ids_size]; exact info25) (by simp [ids]) (ids_one s) ?_; show wpList _ _ _ _ _ (mkW w s); generalize mkW w s = V at HJ ⊢; have c19 := HJ.out.d.cell 19 (by omega); have f19 := HJ.out.d.frozen 19; have HT : Hid (IInv w (V.setCell ⟨w.heap.size + 1 + 1, 19, none⟩ (.int .u8 (bits .xor .u8 (s 19) low))) (upd s 19 (bits .xor .u8 (s 19) low))) := HJ.out.turn 19 (by omega) low l0 l1; generalize hu : upd s 19 (bits .xor .u8 (s 19) low) = u at HT; clear hu) | (refine wpList_load_row rfl 25 _ rfl (w.heap.size + 1 + 1) rfl 25 (ids u).toArray (0, 0) _ HT.out.d Yba.underlying25 rfl (by rw [ids_size]; exact info25) ?_) | (refine wpList_store_row rfl 25 _ _ rfl (w.heap.size + 1) (ids u).toArray rfl rfl 25 (ids zid).toArray HT.out.r (by rw [ids_size]; exact info25) (by simp [ids]) (ids_one u) ?_))
    exact bodyPost_ret (v := .agg (ids u).toArray) (results_cell_row Yba.results6 _ _ (w.heap.size + 1) 25 _ _ _ rfl (setRow_heap _ _ _ _ _ _ HT.out.r) Yba.underlying25 rfl (by rw [ids_size]; exact info25)) rfl ⟨u, rfl, HT.out.by_, below_setRow HT.out.bel (by omega) _⟩
end Go.Proofs.Ybulkcucc
