/-
  A CONTACT AND AN ENTRY, AS VALUES AND IN MEMORY; '==' on IDs, on addresses, on contacts. No walk here.
-/
import Derived.Test.YbulkcuccBucket2
import Derived.Laws.StructEq
namespace Go.Proofs.Ybulkcucc
open Go.RowKit
set_option linter.unusedVariables false

/-- An address without an IP, at port p; a contact; an entry. -/
def adr (p : Int) : List Value := [.int .u64 0, .int .u64 0, .pointer none, .int .u16 p]
def con (x : Nat → Int) (p : Int) : List Value := ids x ++ adr p
def rest7 : List Value := [.int .u64 0, .int .i64 0, .pointer none, .int .u64 0, .int .i64 0, .pointer none, .int .i64 0]
def ent (x : Nat → Int) (p : Int) : List Value := con x p ++ rest7
theorem con_length (x : Nat → Int) (p : Int) : (con x p).length = 24 := by simp [con, ids_length, adr]
theorem ent_length (x : Nat → Int) (p : Int) : (ent x p).length = 31 := by simp [ent, con_length, rest7]
theorem info46 : (Yba.prog.info? 46).map (·.size) = some 24 := by kernel_rfl
theorem info55 : (Yba.prog.info? 55).map (·.size) = some 31 := by kernel_rfl
theorem info43 : (Yba.prog.info? 43).map (·.size) = some 4 := by kernel_rfl
theorem info46l (x : Nat → Int) (p : Int) : (Yba.prog.info? 46).map (·.size) = some (con x p).length := by rw [con_length]; exact info46
theorem info55l (x : Nat → Int) (p : Int) : (Yba.prog.info? 55).map (·.size) = some (ent x p).length := by rw [ent_length]; exact info55

/-- Are two IDs one? two contacts? -/
def idEq (x y : Nat → Int) : Bool := (List.range 20).all fun i => x i == y i
def hit (x : Nat → Int) (p : Int) (y : Nat → Int) (q : Int) : Bool := idEq x y && p == q

theorem size5 (w : World) : (Go.sizeOf 5).run Yba.prog w = .ok 1 w := by kernel_rfl
theorem size25 (w : World) : (Go.sizeOf 25).run Yba.prog w = .ok 20 w := by kernel_rfl
theorem size43 (w : World) : (Go.sizeOf 43).run Yba.prog w = .ok 4 w := by kernel_rfl

theorem equal25 (d : Nat) (x y : Nat → Int) (w : World) : (Op.equalIn (d + 2) 25 (.agg (ids x).toArray) (.agg (ids y).toArray)).run Yba.prog w = .ok (idEq x y) w := by
  unfold idEq
  rw [List.range_eq_range', Op.equalIn]
  simp only [Sem.run_bind, run_underlying Yba.underlying25, Result.andThen_ok, size5, Std.Legacy.Range.forIn_eq_forIn_range', Std.Legacy.Range.size, Nat.sub_zero, Nat.add_sub_cancel, Nat.div_one]
  have hl : ∀ i ∈ List.range' 0 20 1, i < 20 := fun i hi => by simpa using (List.mem_range'_1.1 hi).2
  generalize List.range' 0 20 1 = l at hl ⊢
  induction l with
  | nil => simp
  | cons i l ih =>
    have hi : i < 20 := hl i (by simp)
    have px : ∀ z, (part 5 (ids z).toArray (i * 1)).run Yba.prog w = .ok (.int .u8 (z i)) w := fun z => run_part_plain (P := Yba.prog) w (e := 5) (by kernel_rfl) (by simpa using ids_get z i hi)
    have pe : (Op.equalIn (d + 1) 5 (.int .u8 (x i)) (.int .u8 (y i))).run Yba.prog w = .ok (x i == y i) w := run_equalIn_int w d 5 .u8 .u8 _ _ Yba.underlying5
    simp only [List.forIn_cons, Sem.run_bind, px, pe, Result.andThen_ok, List.all_cons]
    cases hb : (x i == y i)
    · simp
    · simp only [Bool.not_true, Bool.false_eq_true, if_false, Sem.run_pure, Result.andThen_ok, Bool.true_and]
      exact ih fun j hj => hl j (by simp [hj])

theorem eql25 (x y : Nat → Int) (w : World) : (binOp .eql 25 (.agg (ids x).toArray) (.agg (ids y).toArray)).run Yba.prog w = .ok (.bool (idEq x y)) w := by
  rw [run_eql_struct, equal25 9998 x y w]; rfl

theorem u43 : Yba.prog.underlying 43 = some (.struct (Yba.prog.fieldsOf 43)) := by kernel_rfl
theorem u46 : Yba.prog.underlying 46 = some (.struct (Yba.prog.fieldsOf 46)) := by kernel_rfl
theorem s43 : Yba.prog.stoodInHeld 43 = false := by kernel_rfl
theorem s46 : Yba.prog.stoodInHeld 46 = false := by kernel_rfl
theorem g25 : Yba.prog.eqGuardType Yba.prog.depth 25 = false := by kernel_rfl
theorem g43 : Yba.prog.eqGuardType Yba.prog.depth 43 = false := by kernel_rfl
theorem g46 : Yba.prog.eqGuardType Yba.prog.depth 46 = false := by kernel_rfl

theorem s41 : Yba.prog.stoodInHeld 41 = false := by kernel_rfl
theorem s36 : Yba.prog.stoodInHeld 36 = false := by kernel_rfl
theorem s39 : Yba.prog.stoodInHeld 39 = false := by kernel_rfl
theorem u41 : Yba.prog.underlying 41 = some (.struct (Yba.prog.fieldsOf 41)) := by kernel_rfl
theorem u36 : Yba.prog.underlying 36 = some (.struct (Yba.prog.fieldsOf 36)) := by kernel_rfl
theorem u39 : Yba.prog.underlying 39 = some (.struct (Yba.prog.fieldsOf 39)) := by kernel_rfl

theorem equal36 (d : Nat) (w : World) : (Op.equalIn (d + 2) 36 (.agg #[.int .u64 0, .int .u64 0]) (.agg #[.int .u64 0, .int .u64 0])).run Yba.prog w = .ok true w := by
  rw [run_equalIn_struct w _ 36 _ _ u36 s36]
  simp [Program.fieldsOf, Yba.underlying36, Op.eqFields, part, isAgg, run_underlying Yba.underlying34, run_equalIn_int _ _ _ _ _ _ _ Yba.underlying34]
theorem equal39 (d : Nat) (w : World) : (Op.equalIn (d + 2) 39 (.agg #[.pointer none]) (.agg #[.pointer none])).run Yba.prog w = .ok true w := by
  rw [run_equalIn_struct w _ 39 _ _ u39 s39]
  simp [Program.fieldsOf, Yba.underlying39, Op.eqFields, part, isAgg, run_underlying Yba.underlying37, Op.equalIn]
theorem equal41 (d : Nat) (w : World) : (Op.equalIn (d + 3) 41 (.agg #[.int .u64 0, .int .u64 0, .pointer none]) (.agg #[.int .u64 0, .int .u64 0, .pointer none])).run Yba.prog w = .ok true w := by
  rw [run_equalIn_struct w _ 41 _ _ u41 s41]
  simp [Program.fieldsOf, Yba.underlying41, Op.eqFields, part, isAgg, run_underlying Yba.underlying36, run_underlying Yba.underlying39, equal36, equal39]
theorem equal43 (d : Nat) (p q : Int) (w : World) : (Op.equalIn (d + 4) 43 (.agg (adr p).toArray) (.agg (adr q).toArray)).run Yba.prog w = .ok (p == q) w := by
  rw [run_equalIn_struct w _ 43 _ _ u43 s43]
  simp [adr, Program.fieldsOf, Yba.underlying43, Op.eqFields, part, isAgg, run_underlying Yba.underlying41, run_underlying Yba.underlying24, equal41, run_equalIn_int _ _ _ _ _ _ _ Yba.underlying24]
  by_cases h : p = q <;> simp [h]
theorem eql43 (p q : Int) (w : World) : (binOp .eql 43 (.agg (adr p).toArray) (.agg (adr q).toArray)).run Yba.prog w = .ok (.bool (p == q)) w := by
  rw [run_eql_struct, equal43 9996 p q w]; rfl
theorem con_id (x : Nat → Int) (p : Int) : (con x p).toArray.extract 0 20 = (ids x).toArray := by
  have h := ids_length x
  simp [con, List.extract_toArray, List.extract_eq_take_drop, h]
theorem con_adr (x : Nat → Int) (p : Int) : (con x p).toArray.extract 20 24 = (adr p).toArray := by
  have h := ids_length x
  simp [con, List.extract_toArray, List.extract_eq_take_drop, h, adr]
theorem part25 (x : Nat → Int) (p : Int) (w : World) : (part 25 (con x p).toArray 0).run Yba.prog w = .ok (.agg (ids x).toArray) w := by
  have h := con_id x p
  simp only [part, isAgg, Sem.run_bind, run_underlying Yba.underlying25, Sem.run_pure, Result.andThen_ok, Sem.run_ite, if_true, size25, Nat.zero_add, h]
theorem part43 (x : Nat → Int) (p : Int) (w : World) : (part 43 (con x p).toArray 20).run Yba.prog w = .ok (.agg (adr p).toArray) w := by
  have h := con_adr x p
  simp only [part, isAgg, Sem.run_bind, run_underlying Yba.underlying43, Sem.run_pure, Result.andThen_ok, Sem.run_ite, if_true, size43, Nat.reduceAdd, h]
theorem equal46 (d : Nat) (x y : Nat → Int) (p q : Int) (w : World) : (Op.equalIn (d + 5) 46 (.agg (con x p).toArray) (.agg (con y q).toArray)).run Yba.prog w = .ok (hit x p y q) w := by
  have e1 := equal25 (d + 2) x y w
  have e2 := equal43 d p q w
  rw [run_equalIn_struct w _ 46 _ _ u46 s46]
  simp only [Program.fieldsOf, Yba.underlying46]
  simp [Op.eqFields, part25, part43, e1, e2]
  unfold hit
  cases idEq x y <;> by_cases h : p = q <;> simp [h]
theorem eql46 (x y : Nat → Int) (p q : Int) (w : World) : (binOp .eql 46 (.agg (con x p).toArray) (.agg (con y q).toArray)).run Yba.prog w = .ok (.bool (hit x p y q)) w := by
  rw [run_eql_struct, equal46 9995 x y p q w]; rfl

/-- An operation of a plain region by its run. -/
theorem wpList_run {P : Program} {ops : Array Oper} {rest : List Oper} {o : Oper} {a : Act} {w : World} {Q : Exit → Act → World → Prop} {v : Value} (hgd : o.guard = none) (h : (execOp a.eval o).run P w = .ok (.value v) w)
    (hn : wpList P ops Q rest (a.put o.dst v) w) : wpList P ops Q (o :: rest) a w :=
  wpList_plain hgd fun _ hK => by unfold Oper.wp; rw [h]; exact hK _ _ hn
end Go.Proofs.Ybulkcucc
