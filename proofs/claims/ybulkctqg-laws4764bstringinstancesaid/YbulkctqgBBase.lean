/-
  WHAT BOTH LAWS OVER unmarshalInto SHARE: how a walk is told of a slice of integers; that a []byte converts to one and the same string in whatever later world; three facts on interface values.
-/
import Derived.Test.YbulkctqgRows
import Derived.WalkKit
import Derived.ProofKit
import Derived.OpenShut
import Derived.ShutString
import Derived.ChangeOld
import Derived.Below
import Derived.Laws.BytesArg
import Derived.LaidEql
namespace Go.Proofs.Ybulkctqg.BBase
open Go.RowKit

/-- WHAT THE WALK IS TOLD OF A SLICE OF INTEGERS THAT CAME IN. -/
def IsRow (k : IntKind) (w : World) (a : Option Addr) (len cap : Nat) (zs : List Int) : Prop :=
  (a = none ∧ len = 0 ∧ cap = 0 ∧ zs = []) ∨
  ∃ x, a = some x ∧ len ≤ cap ∧ cap ≤ maxLen ∧ zs.length = cap ∧ (∀ i, i < zs.length → w.cell? (x.add i) = some (.int k (zs.getD i 0))) ∧ ∀ n ∈ zs, (Lit.int k n).wf = true

theorem below_alloc {a w : World} (h : Below a.heap.size a w) (o : Obj) : Below a.heap.size a (w.alloc o) := h.alloc h.size o
theorem below_setCell {a w : World} {p : Addr} (h : Below a.heap.size a w) (hp : a.heap.size ≤ p.block) (u : Value) : Below a.heap.size a (w.setCell p u) := h.setCell hp u
theorem below_drew {a w : World} (h : Below a.heap.size a w) : Below a.heap.size a w.drew := h.drew
theorem below_self (a : World) : Below a.heap.size a a := Below.refl _ _

/-- The string that the bytes spell. -/
def text (a : Option Addr) (len : Nat) (zs : List Int) : ByteArray := match a with
  | none => ByteArray.empty
  | some _ => strOfNums (zs.take len)

theorem text_size {w : World} {a : Option Addr} {len cap : Nat} {zs : List Int} (h : IsRow .u8 w a len cap zs) : (text a len zs).size = len := by
  rcases h with ⟨rfl, rfl, rfl, rfl⟩ | ⟨x, rfl, hl, _, hz, _, _⟩
  · rfl
  · simp [text, strOfNums_size]; omega

theorem conv {w w' : World} {a : Option Addr} {len cap : Nat} {zs : List Int} (h : IsRow .u8 w a len cap zs) (hb : Below w.heap.size w w') :
    (convert 26 9 (.slice a len cap)).run Yba.prog w' = .ok (.string (text a len zs)) w' := by
  rcases h with ⟨rfl, rfl, rfl, rfl⟩ | ⟨x, rfl, hl, _, hz, hc, _⟩
  · exact run_convert_bytes_nil w' 26 5 Yba.underlying26 Yba.underlying5 0 0 9 Yba.underlying9
  · have hload : (loadCells x len).run Yba.prog w' = .ok ((zs.take len).map (Value.int .u8)).toArray w' := by
      have h1 := run_loadCells_list (P := Yba.prog) w' x ((zs.take len).map (Value.int .u8)) (fun j v hj => by
        have hjl : j < len := by
          rcases Nat.lt_or_ge j len with h | h
          · exact h
          · rw [List.getElem?_eq_none (by simp; omega)] at hj
            cases hj
        have hjz : j < zs.length := by omega
        have hcj := hc j hjz
        have hlt : (x.add j).block < w.heap.size := by
          rcases Nat.lt_or_ge (x.add j).block w.heap.size with h | h
          · exact h
          · simp [World.cell?, Array.getElem?_eq_none h] at hcj
        rw [hb.cell hlt, hcj]
        rw [List.getElem?_map, List.getElem?_take_of_lt hjl, List.getElem?_eq_getElem hjz] at hj
        simp only [Option.map_some, Option.some.injEq] at hj
        subst hj
        simp [List.getD, List.getElem?_eq_getElem hjz])
      have e : ((zs.take len).map (Value.int .u8)).length = len := by simp; omega
      rw [e] at h1
      exact h1
    rw [run_convert_bytes_string w' 26 9 5 _ len cap Yba.underlying26 Yba.underlying5 Yba.underlying9, run_bytesToString w' _ len cap (zs.take len) hload, foldl_push_bytes]
    simp [text, strOfNums, ByteArray.empty, ByteArray.emptyWithCapacity]
    rfl

theorem comp50 : (Yba.prog.info? 50).map (·.comparable) = some true := by kernel_rfl
theorem is52 : (Yba.prog.info? 52).isSome = true := by kernel_rfl
theorem info50 : ∃ i, Yba.prog.info? 50 = some i ∧ i.comparable = true := by
  have h := comp50
  generalize Yba.prog.info? 50 = o at h
  cases o with
  | none => cases h
  | some i => exact ⟨i, rfl, by simpa using h⟩
theorem info52 : ∃ j, Yba.prog.info? 52 = some j := Option.isSome_iff_exists.1 is52

/-- 'err == bad', one pointer in both. -/
theorem eql_same (a : Addr) (w : World) : (binOp .eql 28 (.iface 50 (.pointer (some a))) (.iface 50 (.pointer (some a)))).run Yba.prog w = .ok (.bool true) w := by
  obtain ⟨i, hi, hc⟩ := info50
  obtain ⟨j, hj⟩ := info52
  exact run_eql_iface_ptr_same w a Yba.underlying28 Yba.underlying50 hi hc hj

end Go.Proofs.Ybulkctqg.BBase
