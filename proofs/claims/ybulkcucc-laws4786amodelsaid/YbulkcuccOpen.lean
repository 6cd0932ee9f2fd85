/-
  THE ARGUMENTS OPENED: an array of 20 bytes; a slice of items. No walk here.
-/
import Derived.Test.YbulkcuccLaw
import Derived.OpenShut
import Derived.Deep.Slices
namespace Go.Proofs.Ybulkcucc
open Go.RowKit Go.ChangeShapes Go.WideShapes
set_option linter.unusedVariables false

section
variable {H : Type} {enc : TypeId × Value → H} {w : World} {base : Nat} {spare : Nat → Bool} {held : Bool}
theorem c5 : Yba.prog.cellsOf 5 = 1 := by kernel_rfl
theorem c4 : Yba.prog.cellsOf 4 = 1 := by kernel_rfl
theorem c24 : Yba.prog.cellsOf 24 = 1 := by kernel_rfl
theorem c22 : Yba.prog.cellsOf 22 = 20 := by kernel_rfl
theorem c32 : Yba.prog.cellsOf 32 = 5 := by kernel_rfl

theorem open_id {v : Value} {d : DataW H} {p : List MemPlace} (h : DataW.Trod enc Yba.prog w base spare held 22 v d p) : ∃ s, Bytes s ∧ v = idV s := by
  obtain ⟨fuel, hf⟩ := h
  obtain ⟨xs, m, rfl, hx, hlen, hxl, hel⟩ := DataW.trod_array Yba.underlying22 hf
  rw [c22] at hlen
  rw [c5] at hel
  obtain ⟨z, hz⟩ := Deep.choose_lt (α := Int) (n := 20) (p := fun i z => v.cells.toList[i]? = some (.int .u8 z) ∧ (Lit.int .u8 z).wf = true) (fun i hi => by
    have g := hel i hi
    rw [List.getElem?_eq_getElem (by omega)] at g
    obtain ⟨z, h1, _, h3⟩ := DataW.trod_int Yba.underlying5 g
    refine ⟨z, ?_, h3⟩
    have := congrArg (·[0]?) h1
    simpa using this)
  refine ⟨z, fun i hi => bounds_u8 (hz i hi).2, ?_⟩
  have e : v.cells.toList = ids z := by
    apply List.ext_getElem?
    intro i
    by_cases hi : i < 20
    · rw [(hz i hi).1, ids_get z i hi]
    · rw [List.getElem?_eq_none (by omega), List.getElem?_eq_none (by rw [ids_length]; omega)]
  have e2 : v.cells = (ids z).toArray := by rw [← e]
  unfold idV
  cases v with
  | agg cs => exact congrArg Value.agg e2
  | _ => simp [Value.cells] at hlen

set_option maxRecDepth 20000 in
theorem open_items {a : Option Addr} {len cap : Nat} {d : DataW H} {p : List MemPlace} (h : DataW.Trod enc Yba.prog w base spare held 23 (.slice a len cap) d p) (hp : 0 < len) :
    ∃ (ib io : Nat) (Pos Low Port Slot : Nat → Int) (Mis : Nat → Bool), a = some ⟨ib, io, none⟩ ∧ ∀ i, i < len → Item w ib io i (Pos i) (Low i) (Port i) (Slot i) (Mis i) := by
  obtain ⟨fuel, hf⟩ := h
  rcases Deep.open_slice Yba.underlying23 hf with ⟨hcs, _⟩ | ⟨x, l, c, m, n, D, Pl, hcs, _, hl, _, hmm, _, hx⟩
  · simp [Value.cells] at hcs
    omega
  · simp [Value.cells] at hcs
    obtain ⟨rfl, rfl, rfl⟩ := hcs
    have hlm : len ≤ m := by rw [hmm]; split <;> omega
    rw [c32] at hx
    have each : ∀ i, i < len → ∃ q : Int × Int × Int × Int × Bool, w.cell? (x.add (i * 5)) = some (.int .u8 q.1) ∧ w.cell? (x.add (i * 5 + 1)) = some (.int .u8 q.2.1) ∧ w.cell? (x.add (i * 5 + 2)) = some (.int .u16 q.2.2.1) ∧
        w.cell? (x.add (i * 5 + 3)) = some (.int .u8 q.2.2.2.1) ∧ w.cell? (x.add (i * 5 + 4)) = some (.bool q.2.2.2.2) ∧ (0 ≤ q.1 ∧ q.1 ≤ 255) ∧ (0 ≤ q.2.1 ∧ q.2.1 ≤ 255) ∧ (0 ≤ q.2.2.2.1 ∧ q.2.2.2.1 ≤ 255) := by
      intro i hi
      obtain ⟨cs', h1, h2⟩ := hx i (by omega)
      obtain ⟨_, hlen, hcell⟩ := World.cells?_some h1
      obtain ⟨xs, k, hk, hxy, _, hxl, hfl⟩ := DataW.trod_struct Yba.underlying32 h2
      have hxl5 : xs.length = 5 := hxl
      clear hxl
      match xs, hxl5, cs', hlen with
      | [y0, y1, y2, y3, y4], _, [v0, v1, v2, v3, v4], _ =>
        have g0 := hfl 0 _ rfl
        have g1 := hfl 1 _ rfl
        have g2 := hfl 2 _ rfl
        have g3 := hfl 3 _ rfl
        have g4 := hfl 4 _ rfl
        simp [c5, c24, c4] at g0 g1 g2 g3 g4
        obtain ⟨z0, a0, _, b0⟩ := DataW.trod_int Yba.underlying5 g0
        obtain ⟨z1, a1, _, b1⟩ := DataW.trod_int Yba.underlying5 g1
        obtain ⟨z2, a2, _, b2⟩ := DataW.trod_int Yba.underlying24 g2
        obtain ⟨z3, a3, _, b3⟩ := DataW.trod_int Yba.underlying5 g3
        obtain ⟨z4, a4, _⟩ := DataW.trod_bool Yba.underlying4 g4
        have e0 := hcell 0 (by omega)
        have e1 := hcell 1 (by omega)
        have e2 := hcell 2 (by omega)
        have e3 := hcell 3 (by omega)
        have e4 := hcell 4 (by omega)
        rw [Deep.add_add] at e0 e1 e2 e3 e4
        simp at a0 a1 a2 a3 a4 e0 e1 e2 e3 e4
        exact ⟨(z0, z1, z2, z3, z4), by rw [e0, a0], by rw [e1, a1], by rw [e2, a2], by rw [e3, a3], by rw [e4, a4], bounds_u8 b0, bounds_u8 b1, bounds_u8 b3⟩
    obtain ⟨q, hq⟩ := Deep.choose_lt each
    obtain ⟨b, off, spot⟩ := x
    have hspot : spot = none := by simpa [Addr.add] using World.cell?_spot (hq 0 hp).1
    subst hspot
    refine ⟨b, off, fun i => (q i).1, fun i => (q i).2.1, fun i => (q i).2.2.1, fun i => (q i).2.2.2.1, fun i => (q i).2.2.2.2, rfl, fun i hi => ?_⟩
    obtain ⟨g0, g1, g2, g3, g4, g5, g6, g7⟩ := hq i hi
    rw [add_plain] at g0 g1 g2 g3 g4
    exact ⟨g0, by rw [Nat.add_assoc]; exact g1, by rw [Nat.add_assoc]; exact g2, by rw [Nat.add_assoc]; exact g3, by rw [Nat.add_assoc]; exact g4, g5, g6, g7⟩
end
end Go.Proofs.Ybulkcucc
