/- Step laws for regions that draw: a struct loaded, built; a literal of one element; an append to a slice of the call's own. -/
import Derived.Test.YtnhafphgkipldaaGreatDoorFx
namespace Go.Proofs.YtnhafphgkipldaaGreatDoor
open Go Go.RowKit

section
variable {P : Program} {ops : Array Oper} {o : Oper} {a : Act} {w : World} {K : Act → World → Prop} {Q : Exit → Act → World → Prop} {E : Prop}
theorem step_wp (hg : o.guard = none) (h : o.wp P a w K Q) : if Region.wanted o (yielded ops a.tmps) = true then Oper.wp P o a w K Q else E := by
  have hw : Region.wanted o (yielded ops a.tmps) = true := by simp [Region.wanted, hg]
  rw [if_pos hw]; exact h
theorem step_load (hg : o.guard = none) (t : TypeId) (x : Operand) (hop : o.op = Op.load t x) (b off : Nat) (xs : List Value) (hx : a.eval x = .pointer (some ⟨b, off, none⟩)) (hagg : (isAgg t).run P w = .ok true w) (hsz : (sizeOf t).run P w = .ok xs.length w)
    (hc : Cs w b off xs) (hK : K (a.put o.dst (.agg xs.toArray)) w) : if Region.wanted o (yielded ops a.tmps) = true then Oper.wp P o a w K Q else E := by
  refine step_wp hg ?_
  have hrun : (Instr.loadAt t (.pointer (some ⟨b, off, none⟩))).run P w = .ok (.agg xs.toArray) w := by
    have hl := run_loadCells_list (P := P) w ⟨b, off, none⟩ xs hc.addr
    simp [Instr.loadAt, Instr.sureAddr, loadVar, hagg, hsz, hl, Result.andThen]
  unfold Oper.wp
  simp [execOp, hop, hx, hrun, Result.andThen]
  exact hK
theorem step_build5 (hg : o.guard = none) (t : TypeId) (x0 x1 x2 x3 x4 : Operand) (hop : o.op = Op.build t #[(0, x0), (1, x1), (2, x2), (3, x3), (4, x4)]) (v0 v1 v2 v3 v4 r : Value) (h0 : a.eval x0 = v0) (h1 : a.eval x1 = v1) (h2 : a.eval x2 = v2) (h3 : a.eval x3 = v3) (h4 : a.eval x4 = v4)
    (hb : (Instr.build t #[(0, v0), (1, v1), (2, v2), (3, v3), (4, v4)]).run P w = .ok r w) (hK : K (a.put o.dst r) w) : if Region.wanted o (yielded ops a.tmps) = true then Oper.wp P o a w K Q else E := by
  refine step_wp hg ?_
  unfold Oper.wp
  simp [execOp, hop, h0, h1, h2, h3, h4, hb, Result.andThen]
  exact hK
theorem step_one (hg : o.guard = none) (t e : TypeId) (x : Operand) (ho : o.op = .buildSlice t 1 #[(0, x)])
    (v : Value) (xs : List Value) (hx : a.eval x = v) (hv : v.cells.toList = xs) (ie : TypeInfo) (z : Value) (sz : Nat)
    (hu : P.underlying t = some (.slice e)) (hie : P.info? e = some ie) (hz : ie.zero = some z) (hsize : ie.size = sz) (hpos : 0 < sz) (hsm : sz ≤ 1000) (hl : xs.length = sz)
    (h : K (a.put o.dst (.slice (some ⟨w.heap.size, 0, none⟩) 1 1)) (w.alloc (.cells xs.toArray e))) : if Region.wanted o (yielded ops a.tmps) = true then Oper.wp P o a w K Q else E := by
  refine step_wp hg ?_
  have hvs : v.cells.size = sz := by rw [← Array.length_toList, hv, hl]
  refine wp_buildSlice t e 1 #[(0, x)] ho xs.toArray ie z hu hie hz (by rw [hsize]; omega) (by rw [hsize]; omega) ?_ h
  rw [hsize]
  have h1 := Great.fill_whole (s := sz) hpos [v] ((Array.range (1 * sz)).map (z.cells[· % z.cells.size]!)) (by intro u hu; simp only [List.mem_singleton] at hu; rw [hu]; exact hvs) (by simp)
  simpa [hx, hv] using h1
theorem step_push (w0 : World) (hgd : o.guard = none) (s x : Operand) (t : TypeId)
    (ho : o.op = .call { callee := .builtin .append, args := #[s, x], argTypes := #[t, t] })
    (e : TypeId) (i : TypeInfo) (z : Value) (size bytes : Nat) (ht : P.underlying t = some (.slice e)) (hi : P.info? e = some i) (hz : i.zero = some z)
    (hsize : i.size = size) (hby : i.bytes = bytes) (hzs : z.cells.size = size) (hsz : 0 < size)
    (v : Value) (n : Nat) (xs : List Value) (hs : a.eval s = v) (hown : w.ownsRow w0.heap.size e size v n xs) (hf : Fr [] w0 w)
    (b m c : Nat) (news : List Value) (hx : a.eval x = .slice (some ⟨b, 0, none⟩) m c) (hl : news.length = m * size) (hnews : Cs w b 0 news) (h1 : ∀ u ∈ news, u.oneCell' = true)
    (hn : n ≤ 1000) (hm : m ≤ 1000) (hb : bytes ≤ 1000)
    (h : ∀ v' w', w'.ownsRow w0.heap.size e size v' (n + m) (xs ++ news) → Fr [] w0 w' → w.grownBy w' v.ownBlock → K (a.put o.dst v') w') : if Region.wanted o (yielded ops a.tmps) = true then Oper.wp P o a w K Q else E := by
  refine step_wp hgd ?_
  refine wp_append_own w s x t ho w0.heap.size e i z size bytes ht hi hz hsize hby hzs hsz v n xs hs hown ⟨b, 0, none⟩ m c news hx hl hnews.addr h1 (by simp only [maxLen]; omega) ?_ hf.size ?_
  · exact Nat.le_trans (Nat.mul_le_mul (show n + m ≤ 2000 by omega) hb) (by decide)
  · intro v' w' ho' hg _
    exact h v' w' ho' (hf.grownOwn hown (Nat.le_refl _) hg) hg
theorem step_pushB (B : Nat) (hgd : o.guard = none) (s x : Operand) (t : TypeId)
    (ho : o.op = .call { callee := .builtin .append, args := #[s, x], argTypes := #[t, t] })
    (e : TypeId) (i : TypeInfo) (z : Value) (size bytes : Nat) (ht : P.underlying t = some (.slice e)) (hi : P.info? e = some i) (hz : i.zero = some z)
    (hsize : i.size = size) (hby : i.bytes = bytes) (hzs : z.cells.size = size) (hsz : 0 < size)
    (v : Value) (n : Nat) (xs : List Value) (hs : a.eval s = v) (hown : w.ownsRow B e size v n xs) (hf : B ≤ w.heap.size)
    (b m c : Nat) (news : List Value) (hx : a.eval x = .slice (some ⟨b, 0, none⟩) m c) (hl : news.length = m * size) (hnews : Cs w b 0 news) (h1 : ∀ u ∈ news, u.oneCell' = true)
    (hn : n ≤ 1000) (hm : m ≤ 1000) (hb : bytes ≤ 1000)
    (h : ∀ v' w', w'.ownsRow B e size v' (n + m) (xs ++ news) → w.grownBy w' v.ownBlock → K (a.put o.dst v') w') : if Region.wanted o (yielded ops a.tmps) = true then Oper.wp P o a w K Q else E := by
  refine step_wp hgd ?_
  refine wp_append_own w s x t ho B e i z size bytes ht hi hz hsize hby hzs hsz v n xs hs hown ⟨b, 0, none⟩ m c news hx hl hnews.addr h1 (by simp only [maxLen]; omega) ?_ hf ?_
  · exact Nat.le_trans (Nat.mul_le_mul (show n + m ≤ 2000 by omega) hb) (by decide)
  · intro v' w' ho' hg _
    exact h v' w' ho' hg
end
theorem step_call {P : Program} {ops : Array Oper} {o : Oper} {a : Act} {w : World} {K : Act → World → Prop} {Q : Exit → Act → World → Prop} {E : Prop} (hg : o.guard = none) (f : Nat) (xs : Array Operand) (ts : Array TypeId) (ho : o.op = .call { callee := .value (.func f), args := xs, argTypes := ts }) (vals : Array Value) (hv : xs.map a.eval = vals)
    (hf : (callFunc f vals).run P w = .ok (.enter f vals) w) {R : Ending → World → Prop} (hc : Calls P f vals w R) (hR : ∀ e w', R e w' → ∃ v, e = .returned v ∧ K (a.put o.dst v) w') : if Region.wanted o (yielded ops a.tmps) = true then Oper.wp P o a w K Q else E := by
  refine step_wp hg ?_
  unfold Oper.wp
  simp [execOp, ho, resolve, invoke, hv, hf, Act.eval, Result.andThen, Oper.upon, go_sem]
  refine hc.mono ?_
  intro e w' h
  obtain ⟨v, rfl, hk⟩ := hR e w' h
  exact hk
theorem build51 (s : ByteArray) (y : Sy) (A1 A2 : Option Addr) (n1 c1 n2 c2 : Nat) (dt : ByteArray) (W : World) : (Instr.build 51 #[(0, .string s), (1, .agg y.cells.toArray), (2, .slice A1 n1 c1), (3, .slice A2 n2 c2), (4, .string dt)]).run Tryz.prog W = .ok (.agg (Value.string s :: y.cells ++ [Value.slice A1 n1 c1, Value.slice A2 n2 c2, Value.string dt]).toArray) W := by
  obtain ⟨a, b, c, d, e, f⟩ := y
  show _ = _
  kernel_rfl

end Go.Proofs.YtnhafphgkipldaaGreatDoor
