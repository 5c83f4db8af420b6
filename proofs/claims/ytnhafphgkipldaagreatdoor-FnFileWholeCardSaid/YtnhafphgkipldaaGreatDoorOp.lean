/- Laws on single operations: a struct or an array loaded, stored, an array's element; for the walks. -/
import Derived.Test.YtnhafphgkipldaaGreatDoorBase
import Derived.Deep.DeepMust
namespace Go.Proofs.YtnhafphgkipldaaGreatDoor
open Go Go.RowKit

theorem run_index_arr {P : Program} {t e n : Nat} (ht : P.underlying t = some (.array n e)) (hagg : ∀ w, (isAgg e).run P w = .ok false w) (hsz : ∀ w, (sizeOf e).run P w = .ok 1 w) (cs : Array Value) (k : Nat) (hk : k < n) (v : Value) (hv : cs[k]? = some v) (w : World) :
    (Instr.index t (.agg cs) (.int .i64 k)).run P w = .ok v w := by
  have h1 : (0 : Int) ≤ (k : Int) ∧ (k : Int) < (n : Int) := by omega
  simp [Instr.index, asIntOf, run_underlying ht, h1, hsz, part, hagg, hv, Result.andThen, hk]

/-! ### a struct or an array loaded out of a row -/
/-- Picks an operation by its slot. -/
theorem selD {P : Program} {ops : Array Oper} {Q : Exit → Act → World → Prop} {rest : List Oper} {a : Act} {w : World} (d : Nat) {op : Op} {ty : TypeId} {pos : String} {af : Array Edge} {gd : Option (Nat × Bool)}
    (h : wpList P ops Q (⟨some d, op, ty, pos, af, gd⟩ :: rest) a w) : wpList P ops Q (⟨some d, op, ty, pos, af, gd⟩ :: rest) a w := h
/-- Picks a store of a type. -/
theorem selS {P : Program} {ops : Array Oper} {Q : Exit → Act → World → Prop} {rest : List Oper} {a : Act} {w : World} (t : TypeId) {x v : Operand} {ty : TypeId} {pos : String} {af : Array Edge} {gd : Option (Nat × Bool)}
    (h : wpList P ops Q (⟨none, .store t x v, ty, pos, af, gd⟩ :: rest) a w) : wpList P ops Q (⟨none, .store t x v, ty, pos, af, gd⟩ :: rest) a w := h
theorem wpList_load_cs {P : Program} (w : World) {ops : Array Oper} {rest : List Oper} {o : Oper} {a : Act} {Q : Exit → Act → World → Prop}
    (hg : o.guard = none) (t : TypeId) (x : Operand) (hop : o.op = Op.load t x) (b off : Nat) (xs : List Value) (hx : a.eval x = .pointer (some ⟨b, off, none⟩)) (hagg : (isAgg t).run P w = .ok true w) (hsz : (sizeOf t).run P w = .ok xs.length w)
    (hc : Cs w b off xs) (hK : wpList P ops Q rest (a.put o.dst (.agg xs.toArray)) w) :
    wpList P ops Q (o :: rest) a w := by
  refine wpList_plain hg fun K' hK' => ?_
  have hrun : (Instr.loadAt t (.pointer (some ⟨b, off, none⟩))).run P w = .ok (.agg xs.toArray) w := by
    have hl := run_loadCells_list (P := P) w ⟨b, off, none⟩ xs hc.addr
    simp [Instr.loadAt, Instr.sureAddr, loadVar, hagg, hsz, hl, Result.andThen]
  unfold Oper.wp
  simp [execOp, hop, hx, hrun, Result.andThen]
  exact hK' _ _ hK

/-- A struct or an array stored into a row: some world in which the row holds it. -/
theorem wpList_store_cs {P : Program} (w : World) {ops : Array Oper} {rest : List Oper} {o : Oper} {a : Act} {Q : Exit → Act → World → Prop}
    (hg : o.guard = none) (t : TypeId) (x v : Operand) (hop : o.op = Op.store t x v) (b off : Nat) (T : TypeId) (p ys q xs : List Value) (hx : a.eval x = .pointer (some ⟨b, off, none⟩)) (hv : a.eval v = .agg xs.toArray)
    (hsz : (sizeOf t).run P w = .ok xs.length w) (hb : Blk w b T (p ++ ys ++ q).toArray) (hp : off = p.length) (hl : ys.length = xs.length) (h1 : ∀ v ∈ xs, v.oneCell' = true)
    (hK : ∀ w', Blk w' b T (p ++ xs ++ q).toArray → Fr [b] w w' → wpList P ops Q rest (a.put o.dst undef) w') :
    wpList P ops Q (o :: rest) a w := by
  refine wpList_plain hg fun K' hK' => ?_
  have hst := run_storeCells_at (P := P) b off T xs 0 _ w hb (by simp [hp]; omega) h1
  have hrun : (Instr.storeAt t (.pointer (some ⟨b, off, none⟩)) (.agg xs.toArray)).run P w = .ok () (w.setRow b (p ++ xs ++ q).toArray) := by
    simp [Instr.storeAt, Instr.sureAddr, storeVar, hsz, Result.andThen, Value.cells]
    rw [hst]
    congr 2
    simp [hp, hl]
  unfold Oper.wp
  simp [execOp, hop, hx, hv, hrun, Result.andThen]
  have := hK (w.setRow b (p ++ xs ++ q).toArray) (setRow_heap w b _ _ T (0, 0) hb) ⟨rfl, rfl, rfl, by simp, fun k _ hk => setRow_other w b k _ (by simpa using hk)⟩
  exact hK' _ _ (by simpa using this)

/-- .. into a block that it fills. -/
theorem wpList_store_all {P : Program} (w : World) {ops : Array Oper} {rest : List Oper} {o : Oper} {a : Act} {Q : Exit → Act → World → Prop}
    (hg : o.guard = none) (t : TypeId) (x v : Operand) (hop : o.op = Op.store t x v) (b : Nat) (T : TypeId) (ys : Array Value) (xs : List Value) (hx : a.eval x = .pointer (some ⟨b, 0, none⟩)) (hv : a.eval v = .agg xs.toArray)
    (hsz : (sizeOf t).run P w = .ok xs.length w) (hb : Blk w b T ys) (hl : ys.size = xs.length) (h1 : ∀ v ∈ xs, v.oneCell' = true)
    (hK : ∀ w', Blk w' b T xs.toArray → Fr [b] w w' → wpList P ops Q rest (a.put o.dst undef) w') :
    wpList P ops Q (o :: rest) a w :=
  wpList_store_cs w hg t x v hop b 0 T [] ys.toList [] xs hx hv hsz (by simpa using hb) rfl (by simpa using hl) h1 (fun w' h => hK w' (by simpa using h))

end Go.Proofs.YtnhafphgkipldaaGreatDoor
