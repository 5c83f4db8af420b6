/- What is compared with itself is the same: structs, arrays, strings. Plain; no walk. Conditions: the lengths of arrays. -/
import Derived.Test.YtnhafphgkipldaaGreatDoorPln
import Derived.Laws.StructEq
import Derived.ChangeKeysEq
namespace Go.Proofs.YtnhafphgkipldaaGreatDoor
open Go Go.RowKit

section
variable {P : Program}
theorem eqFields_self (d : Nat) (xs : Array Value) : ∀ (fs : List Field), (∀ f ∈ fs, ∃ a, ∀ w, (part f.type xs f.offset).run P w = .ok a w ∧ (Op.equalIn d f.type a a).run P w = .ok true w) → ∀ w, (Op.eqFields d xs xs fs).run P w = .ok true w
  | [], _, w => by simp [Op.eqFields]
  | f :: fs, h, w => by
    obtain ⟨a, ha⟩ := h f (by simp)
    have ih := eqFields_self d xs fs (fun g hg => h g (by simp [hg])) w
    by_cases hn : f.name = "_"
    · simp [Op.eqFields, hn, ih]
    · simp [Op.eqFields, hn, (ha w).1, (ha w).2, ih, Result.andThen]
theorem self_struct (d : Nat) (t : TypeId) (xs : Array Value) (hu : P.underlying t = some (.struct (P.fieldsOf t))) (hp : P.stoodInHeld t = false)
    (h : ∀ f ∈ (P.fieldsOf t).toList, ∃ a, ∀ w, (part f.type xs f.offset).run P w = .ok a w ∧ (Op.equalIn d f.type a a).run P w = .ok true w) (w : World) : (Op.equalIn (d + 1) t (.agg xs) (.agg xs)).run P w = .ok true w := by
  rw [run_equalIn_agg w d t xs xs hu hp]; exact eqFields_self d xs _ h w
theorem eqItems_self (d : Nat) (e : TypeId) (xs : Array Value) : ∀ (is : List Nat), (∀ i ∈ is, ∃ a, ∀ w, (part e xs (i * 1)).run P w = .ok a w ∧ (Op.equalIn d e a a).run P w = .ok true w) → ∀ w, (Op.eqItems d e 1 xs xs is).run P w = .ok true w
  | [], _, w => by simp [Op.eqItems]
  | i :: is, h, w => by
    obtain ⟨a, ha⟩ := h i (by simp)
    have ih := eqItems_self d e xs is (fun g hg => h g (by simp [hg])) w
    have h1 := (ha w).1
    simp only [Op.eqItems, Sem.run_bind, h1, (ha w).2, Result.andThen_ok, Bool.not_true, Bool.false_eq_true, if_false]
    exact ih
theorem self_array (d : Nat) (t e : TypeId) (n : Nat) (i : TypeInfo) (xs : Array Value) (hu : P.underlying t = some (.array n e)) (hi : P.info? e = some i) (hc : P.cellsOf e = 1) (hagg : ∀ w, (isAgg e).run P w = .ok false w)
    (h : ∀ j < n, ∃ a, xs[j]? = some a ∧ ∀ w, (Op.equalIn d e a a).run P w = .ok true w) (w : World) : (Op.equalIn (d + 1) t (.agg xs) (.agg xs)).run P w = .ok true w := by
  rw [run_equalIn_array w d xs xs hu hi, hc]
  refine eqItems_self d e xs _ (fun j hj => ?_) w
  obtain ⟨a, h1, h2⟩ := h j (List.mem_range.1 hj)
  refine ⟨a, fun w => ⟨?_, h2 w⟩⟩
  rw [Nat.mul_one]
  simp [part, hagg, h1, Result.andThen]
theorem self_int (d : Nat) (t : TypeId) (k k' : IntKind) (a : Int) (h : P.underlying t = some (.int k')) (w : World) : (Op.equalIn (d + 1) t (.int k a) (.int k a)).run P w = .ok true w := by
  rw [run_equalIn_int w d t k k' a a h]; simp
theorem self_string (d : Nat) (t : TypeId) (a : ByteArray) (h : P.underlying t = some .string) (w : World) : (Op.equalIn (d + 1) t (.string a) (.string a)).run P w = .ok true w := by
  rw [run_equalIn_string w d t a a h]; simp
end
set_option maxRecDepth 100000 in
theorem self_by (d : Nat) (t n : Nat) (l : By) (hu : Tryz.prog.underlying t = some (.array n 5)) (hl : l.length = n) (w : World) : (Op.equalIn (d + 2) t (.agg (Lib.byteCells l).toArray) (.agg (Lib.byteCells l).toArray)).run Tryz.prog w = .ok true w := by
  refine self_array (d + 1) t 5 n _ _ hu (by rfl) (by kernel_rfl) (fun _ => by kernel_rfl) (fun j hj => ?_) w
  have hj' : j < l.length := by omega
  refine ⟨.int .u8 (l[j].toNat : Int), ?_, fun w => self_int d 5 _ .u8 _ (by kernel_rfl) w⟩
  rw [List.getElem?_toArray, bc_get, List.getElem?_eq_getElem hj']; rfl
theorem self47 (d : Nat) (y : Sy) (w : World) : (Op.equalIn (d + 2) 47 (.agg y.cells.toArray) (.agg y.cells.toArray)).run Tryz.prog w = .ok true w := by
  refine self_struct (d + 1) 47 _ (by kernel_rfl) (by kernel_rfl) (fun f hf => ?_) w
  simp only [Program.fieldsOf, Tryz.underlying47, List.mem_cons, List.not_mem_nil, or_false] at hf
  rcases hf with rfl | rfl | rfl | rfl | rfl | rfl
  · exact ⟨.int .u16 y.abi, fun w => ⟨by kernel_rfl, self_int d _ _ .u16 _ (by kernel_rfl) w⟩⟩
  · exact ⟨.int .u8 y.kind, fun w => ⟨by kernel_rfl, self_int d _ _ .u8 _ (by kernel_rfl) w⟩⟩
  · exact ⟨.int .u8 y.flag, fun w => ⟨by kernel_rfl, self_int d _ _ .u8 _ (by kernel_rfl) w⟩⟩
  · exact ⟨.int .u8 y.flag2, fun w => ⟨by kernel_rfl, self_int d _ _ .u8 _ (by kernel_rfl) w⟩⟩
  · exact ⟨.int .u32 y.size, fun w => ⟨by kernel_rfl, self_int d _ _ .u32 _ (by kernel_rfl) w⟩⟩
  · exact ⟨.int .u32 y.align, fun w => ⟨by kernel_rfl, self_int d _ _ .u32 _ (by kernel_rfl) w⟩⟩
theorem self55 (d : Nat) (y : Ref) (w : World) : (Op.equalIn (d + 2) 55 (.agg y.cells.toArray) (.agg y.cells.toArray)).run Tryz.prog w = .ok true w := by
  refine self_struct (d + 1) 55 _ (by kernel_rfl) (by kernel_rfl) (fun f hf => ?_) w
  simp only [Program.fieldsOf, Tryz.underlying55, List.mem_cons, List.not_mem_nil, or_false] at hf
  rcases hf with rfl | rfl
  · exact ⟨.int .u32 y.pkg, fun w => ⟨by kernel_rfl, self_int d _ _ .u32 _ (by kernel_rfl) w⟩⟩
  · exact ⟨.int .u32 y.sym, fun w => ⟨by kernel_rfl, self_int d _ _ .u32 _ (by kernel_rfl) w⟩⟩
theorem self157 (d : Nat) (y : Rel) (w : World) : (Op.equalIn (d + 3) 157 (.agg y.cells.toArray) (.agg y.cells.toArray)).run Tryz.prog w = .ok true w := by
  refine self_struct (d + 2) 157 _ (by kernel_rfl) (by kernel_rfl) (fun f hf => ?_) w
  simp only [Program.fieldsOf, Tryz.underlying157, List.mem_cons, List.not_mem_nil, or_false] at hf
  rcases hf with rfl | rfl | rfl | rfl | rfl
  · exact ⟨.int .i32 y.off, fun w => ⟨by kernel_rfl, self_int (d + 1) _ _ .i32 _ (by kernel_rfl) w⟩⟩
  · exact ⟨.int .u8 y.size, fun w => ⟨by kernel_rfl, self_int (d + 1) _ _ .u8 _ (by kernel_rfl) w⟩⟩
  · exact ⟨.int .u16 y.kind, fun w => ⟨by kernel_rfl, self_int (d + 1) _ _ .u16 _ (by kernel_rfl) w⟩⟩
  · exact ⟨.int .i64 y.add, fun w => ⟨by kernel_rfl, self_int (d + 1) _ _ .i64 _ (by kernel_rfl) w⟩⟩
  · exact ⟨.agg y.ref.cells.toArray, fun w => ⟨by kernel_rfl, self55 d y.ref w⟩⟩
theorem self165 (d : Nat) (y : Aux) (w : World) : (Op.equalIn (d + 3) 165 (.agg y.cells.toArray) (.agg y.cells.toArray)).run Tryz.prog w = .ok true w := by
  refine self_struct (d + 2) 165 _ (by kernel_rfl) (by kernel_rfl) (fun f hf => ?_) w
  simp only [Program.fieldsOf, Tryz.underlying165, List.mem_cons, List.not_mem_nil, or_false] at hf
  rcases hf with rfl | rfl
  · exact ⟨.int .u8 y.kind, fun w => ⟨by kernel_rfl, self_int (d + 1) _ _ .u8 _ (by kernel_rfl) w⟩⟩
  · exact ⟨.agg y.ref.cells.toArray, fun w => ⟨by kernel_rfl, self55 d y.ref w⟩⟩
theorem self92 (d : Nat) (y : Flg) (w : World) : (Op.equalIn (d + 3) 92 (.agg y.cells.toArray) (.agg y.cells.toArray)).run Tryz.prog w = .ok true w := by
  refine self_struct (d + 2) 92 _ (by kernel_rfl) (by kernel_rfl) (fun f hf => ?_) w
  simp only [Program.fieldsOf, Tryz.underlying92, List.mem_cons, List.not_mem_nil, or_false] at hf
  rcases hf with rfl | rfl | rfl
  · exact ⟨.agg y.ref.cells.toArray, fun w => ⟨by kernel_rfl, self55 d y.ref w⟩⟩
  · exact ⟨.int .u8 y.flag, fun w => ⟨by kernel_rfl, self_int (d + 1) _ _ .u8 _ (by kernel_rfl) w⟩⟩
  · exact ⟨.int .u8 y.flag2, fun w => ⟨by kernel_rfl, self_int (d + 1) _ _ .u8 _ (by kernel_rfl) w⟩⟩
theorem self57 (d : Nat) (y : Nam) (w : World) : (Op.equalIn (d + 3) 57 (.agg y.cells.toArray) (.agg y.cells.toArray)).run Tryz.prog w = .ok true w := by
  refine self_struct (d + 2) 57 _ (by kernel_rfl) (by kernel_rfl) (fun f hf => ?_) w
  simp only [Program.fieldsOf, Tryz.underlying57, List.mem_cons, List.not_mem_nil, or_false] at hf
  rcases hf with rfl | rfl
  · exact ⟨.agg y.ref.cells.toArray, fun w => ⟨by kernel_rfl, self55 d y.ref w⟩⟩
  · exact ⟨.string y.name, fun w => ⟨by kernel_rfl, self_string (d + 1) _ _ (by kernel_rfl) w⟩⟩
theorem self53 (d : Nat) (y : Rfd) (w : World) : (Op.equalIn (d + 3) 53 (.agg y.cells.toArray) (.agg y.cells.toArray)).run Tryz.prog w = .ok true w := by
  refine self_struct (d + 2) 53 _ (by kernel_rfl) (by kernel_rfl) (fun f hf => ?_) w
  simp only [Program.fieldsOf, Tryz.underlying53, List.mem_cons, List.not_mem_nil, or_false] at hf
  rcases hf with rfl | rfl
  · exact ⟨.string y.name, fun w => ⟨by kernel_rfl, self_string (d + 1) _ _ (by kernel_rfl) w⟩⟩
  · exact ⟨.agg y.sy.cells.toArray, fun w => ⟨by kernel_rfl, self47 d y.sy w⟩⟩
theorem self59 (d : Nat) (y : Imp) (h : y.fp.length = 8) (w : World) : (Op.equalIn (d + 3) 59 (.agg y.cells.toArray) (.agg y.cells.toArray)).run Tryz.prog w = .ok true w := by
  refine self_struct (d + 2) 59 _ (by kernel_rfl) (by kernel_rfl) (fun f hf => ?_) w
  simp only [Program.fieldsOf, Tryz.underlying59, List.mem_cons, List.not_mem_nil, or_false] at hf
  rcases hf with rfl | rfl
  · exact ⟨.string y.pkg, fun w => ⟨by kernel_rfl, self_string (d + 1) _ _ (by kernel_rfl) w⟩⟩
  · refine ⟨.agg (Lib.byteCells y.fp).toArray, fun w => ⟨?_, self_by d 22 8 y.fp (by kernel_rfl) h w⟩⟩
    obtain ⟨s, fp⟩ := y
    match fp, h with
    | [a, b, c, d, e, f, g, h], _ => show _ = _; kernel_rfl
/-- '!=' of one with itself. -/
theorem neq_agg {P : Program} (t : TypeId) (xs : Array Value) (h : ∀ w, (Op.equalIn 10000 t (.agg xs) (.agg xs)).run P w = .ok true w) (hg : P.eqGuardType P.depth t = false) (x y : Operand) (w : World) : ((do eqGuard .neq t x y (.agg xs) (.agg xs); binOp .neq t (.agg xs) (.agg xs) : Sem Value)).run P w = .ok (.bool false) w := by
  rw [Sem.run_bind, run_eqGuard_agg w .neq t x y xs xs hg, Result.andThen_ok, run_neq_struct w t xs xs, h w]; rfl
theorem eql_agg {P : Program} (t : TypeId) (xs : Array Value) (h : ∀ w, (Op.equalIn 10000 t (.agg xs) (.agg xs)).run P w = .ok true w) (hg : P.eqGuardType P.depth t = false) (x y : Operand) (w : World) : ((do eqGuard .eql t x y (.agg xs) (.agg xs); binOp .eql t (.agg xs) (.agg xs) : Sem Value)).run P w = .ok (.bool true) w := by
  rw [Sem.run_bind, run_eqGuard_agg w .eql t x y xs xs hg, Result.andThen_ok, run_eql_struct w t xs xs, h w]; rfl
section
variable {P : Program} {ops : Array Oper} {Q : Exit → Act → World → Prop}
/-- A tail of one operation that gives a value. -/
theorem tail_op {o : Oper} {a : Act} {w : World} (v : Value) (hg : o.guard = none) (hrun : (execOp a.eval o).run P w = .ok (.value v) w) (h : Q .normal (a.put o.dst v) w) : wpList P ops (NoPanic Q) [o] a w := by
  refine wpList_plain hg fun K' hK' => ?_
  unfold Oper.wp
  rw [hrun]
  exact hK' _ _ (NoPanic.normal h)
theorem tail_neq {o : Oper} {a : Act} {w : World} (T T' : TypeId) (x y : Operand) (xs : Array Value) (hg : o.guard = none) (hop : o.op = .binOp .neq T x y T') (hx : a.eval x = .agg xs) (hy : a.eval y = .agg xs) (hs : ∀ w, (Op.equalIn 10000 T (.agg xs) (.agg xs)).run P w = .ok true w) (he : P.eqGuardType P.depth T = false)
    (h : Q .normal (a.put o.dst (.bool false)) w) : wpList P ops (NoPanic Q) [o] a w := by
  refine tail_op _ hg ?_ h
  have hn := neq_agg T xs hs he x y w
  simp only [execOp, hop, hx, hy]
  rw [Sem.run_bind, hn]; rfl
end

end Go.Proofs.YtnhafphgkipldaaGreatDoor
