/-
  THE TABLE's CELLS: what 'make' and the struct literals come to. No walk here.
-/
import Derived.Test.YbulkcuccCon
import Derived.Laws.Tables
namespace Go.Proofs.Ybulkcucc
open Go.RowKit

/-- A bucket that is empty; n of them. -/
def zb : List Value := [.slice none 0 0, .int .u64 0, .int .i64 0, .pointer none, .bool false]
def zbs (n : Nat) : List Value := (List.replicate n zb).flatten
theorem mk1 (w : World) : (Instr.makeSlice 26 (.int .i64 1) (.int .i64 1)).run Yba.prog w = .ok (.slice (some ⟨w.heap.size, 0, none⟩) 1 1) (w.alloc (.cells (zbs 1).toArray 53)) := by kernel_rfl
theorem mk2 (w : World) : (Instr.makeSlice 26 (.int .i64 2) (.int .i64 2)).run Yba.prog w = .ok (.slice (some ⟨w.heap.size, 0, none⟩) 2 2) (w.alloc (.cells (zbs 2).toArray 53)) := by kernel_rfl
theorem mk3 (w : World) : (Instr.makeSlice 26 (.int .i64 3) (.int .i64 3)).run Yba.prog w = .ok (.slice (some ⟨w.heap.size, 0, none⟩) 3 3) (w.alloc (.cells (zbs 3).toArray 53)) := by kernel_rfl
theorem mk4 (w : World) : (Instr.makeSlice 26 (.int .i64 4) (.int .i64 4)).run Yba.prog w = .ok (.slice (some ⟨w.heap.size, 0, none⟩) 4 4) (w.alloc (.cells (zbs 4).toArray 53)) := by kernel_rfl
theorem mk5 (w : World) : (Instr.makeSlice 26 (.int .i64 5) (.int .i64 5)).run Yba.prog w = .ok (.slice (some ⟨w.heap.size, 0, none⟩) 5 5) (w.alloc (.cells (zbs 5).toArray 53)) := by kernel_rfl
theorem mk6 (w : World) : (Instr.makeSlice 26 (.int .i64 6) (.int .i64 6)).run Yba.prog w = .ok (.slice (some ⟨w.heap.size, 0, none⟩) 6 6) (w.alloc (.cells (zbs 6).toArray 53)) := by kernel_rfl
theorem mk7 (w : World) : (Instr.makeSlice 26 (.int .i64 7) (.int .i64 7)).run Yba.prog w = .ok (.slice (some ⟨w.heap.size, 0, none⟩) 7 7) (w.alloc (.cells (zbs 7).toArray 53)) := by kernel_rfl
theorem mk8 (w : World) : (Instr.makeSlice 26 (.int .i64 8) (.int .i64 8)).run Yba.prog w = .ok (.slice (some ⟨w.heap.size, 0, none⟩) 8 8) (w.alloc (.cells (zbs 8).toArray 53)) := by kernel_rfl
theorem mk9 (w : World) : (Instr.makeSlice 26 (.int .i64 9) (.int .i64 9)).run Yba.prog w = .ok (.slice (some ⟨w.heap.size, 0, none⟩) 9 9) (w.alloc (.cells (zbs 9).toArray 53)) := by kernel_rfl
theorem mk10 (w : World) : (Instr.makeSlice 26 (.int .i64 10) (.int .i64 10)).run Yba.prog w = .ok (.slice (some ⟨w.heap.size, 0, none⟩) 10 10) (w.alloc (.cells (zbs 10).toArray 53)) := by kernel_rfl
theorem mk11 (w : World) : (Instr.makeSlice 26 (.int .i64 11) (.int .i64 11)).run Yba.prog w = .ok (.slice (some ⟨w.heap.size, 0, none⟩) 11 11) (w.alloc (.cells (zbs 11).toArray 53)) := by kernel_rfl
theorem mk12 (w : World) : (Instr.makeSlice 26 (.int .i64 12) (.int .i64 12)).run Yba.prog w = .ok (.slice (some ⟨w.heap.size, 0, none⟩) 12 12) (w.alloc (.cells (zbs 12).toArray 53)) := by kernel_rfl
theorem make12 (n : Nat) (h0 : 1 ≤ n) (h1 : n ≤ 12) (w : World) : (Instr.makeSlice 26 (.int .i64 (n : Int)) (.int .i64 (n : Int))).run Yba.prog w = .ok (.slice (some ⟨w.heap.size, 0, none⟩) n n) (w.alloc (.cells (zbs n).toArray 53)) := by
  have hc : n = 1 ∨ n = 2 ∨ n = 3 ∨ n = 4 ∨ n = 5 ∨ n = 6 ∨ n = 7 ∨ n = 8 ∨ n = 9 ∨ n = 10 ∨ n = 11 ∨ n = 12 := by omega
  rcases hc with rfl | rfl | rfl | rfl | rfl | rfl | rfl | rfl | rfl | rfl | rfl | rfl
  · exact mk1 w
  · exact mk2 w
  · exact mk3 w
  · exact mk4 w
  · exact mk5 w
  · exact mk6 w
  · exact mk7 w
  · exact mk8 w
  · exact mk9 w
  · exact mk10 w
  · exact mk11 w
  · exact mk12 w

/-- The table's cells. -/
def tabC (s : Nat → Int) (v : Value) : List Value := ids s ++ [v, .map none, .map none]
theorem build30 (s : Nat → Int) (b n c : Nat) (w : World) : (Instr.build 30 #[(0, .agg (ids s).toArray), (1, .slice (some ⟨b, 0, none⟩) n c)]).run Yba.prog w = .ok (.agg (tabC s (.slice (some ⟨b, 0, none⟩) n c)).toArray) w := by
  kernel_rfl
theorem build46 (x : Nat → Int) (p : Int) (w : World) : (Instr.build 46 #[(0, .agg (ids x).toArray), (1, .agg (adr p).toArray)]).run Yba.prog w = .ok (.agg (con x p).toArray) w := by
  kernel_rfl
theorem build55 (x : Nat → Int) (p : Int) (w : World) : (Instr.build 55 #[(0, .agg (con x p).toArray)]).run Yba.prog w = .ok (.agg (ent x p).toArray) w := by
  kernel_rfl
end Go.Proofs.Ybulkcucc
