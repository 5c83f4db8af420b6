/- A literal of one element, and its append to a slice of the call's own; for the walks. -/
import Derived.Test.YtnhafphgkipldaaGreatDoorAl
import Derived.Great.BuildSlice
namespace Go.Proofs.YtnhafphgkipldaaGreatDoor
open Go Go.RowKit

theorem wpList_one {P : Program} (w : World) {ops : Array Oper} {rest : List Oper} {o : Oper} {a : Act} {Q : Exit → Act → World → Prop} (hg : o.guard = none) (t e : TypeId) (x : Operand) (ho : o.op = .buildSlice t 1 #[(0, x)])
    (v : Value) (xs : List Value) (hx : a.eval x = v) (hv : v.cells.toList = xs) (ie : TypeInfo) (z : Value) (sz : Nat)
    (hu : P.underlying t = some (.slice e)) (hie : P.info? e = some ie) (hz : ie.zero = some z) (hsize : ie.size = sz) (hpos : 0 < sz) (hsm : sz ≤ 1000) (hl : xs.length = sz)
    (h : wpList P ops Q rest (a.put o.dst (.slice (some ⟨w.heap.size, 0, none⟩) 1 1)) (w.alloc (.cells xs.toArray e))) : wpList P ops Q (o :: rest) a w := by
  have hvs : v.cells.size = sz := by rw [← Array.length_toList, hv, hl]
  refine wpList_buildSlice hg t e 1 #[(0, x)] ho xs.toArray ie z hu hie hz (by rw [hsize]; omega) (by rw [hsize]; omega) ?_ h
  rw [hsize]
  have h1 := Great.fill_whole (s := sz) hpos [v] ((Array.range (1 * sz)).map (z.cells[· % z.cells.size]!)) (by intro u hu; simp only [List.mem_singleton] at hu; rw [hu]; exact hvs) (by simp)
  simpa [hx, hv] using h1

theorem wpList_push {P : Program} (w0 w : World) {ops : Array Oper} {rest : List Oper} {o : Oper} {a : Act} {Q : Exit → Act → World → Prop} (hgd : o.guard = none) (s x : Operand) (t : TypeId)
    (ho : o.op = .call { callee := .builtin .append, args := #[s, x], argTypes := #[t, t] })
    (e : TypeId) (i : TypeInfo) (z : Value) (size bytes : Nat) (ht : P.underlying t = some (.slice e)) (hi : P.info? e = some i) (hz : i.zero = some z)
    (hsize : i.size = size) (hby : i.bytes = bytes) (hzs : z.cells.size = size) (hsz : 0 < size)
    (v : Value) (n : Nat) (xs : List Value) (hs : a.eval s = v) (hown : w.ownsRow w0.heap.size e size v n xs) (hf : Fr [] w0 w)
    (b m c : Nat) (news : List Value) (hx : a.eval x = .slice (some ⟨b, 0, none⟩) m c) (hl : news.length = m * size) (hnews : Cs w b 0 news) (h1 : ∀ u ∈ news, u.oneCell' = true)
    (hn : n ≤ 1000) (hm : m ≤ 1000) (hb : bytes ≤ 1000)
    (h : ∀ v' w', w'.ownsRow w0.heap.size e size v' (n + m) (xs ++ news) → Fr [] w0 w' → w.grownBy w' v.ownBlock → wpList P ops Q rest (a.put o.dst v') w') : wpList P ops Q (o :: rest) a w := by
  refine wpList_append_own (w := w) hgd s x t ho w0.heap.size e i z size bytes ht hi hz hsize hby hzs hsz v n xs hs hown ⟨b, 0, none⟩ m c news hx hl hnews.addr h1 (by simp only [maxLen]; omega) ?_ hf.size ?_
  · exact Nat.le_trans (Nat.mul_le_mul (show n + m ≤ 2000 by omega) hb) (by decide)
  · intro v' w' ho' hg _
    exact h v' w' ho' (hf.grownOwn hown (Nat.le_refl _) hg) hg

theorem blk_grown {w w' : World} {B : Nat} {e T : TypeId} {sz n m : Nat} {v : Value} {xs : List Value} {cs : Array Value} (hb : Blk w m T cs) (ho : w.ownsRow B e sz v n xs) (hg : w.grownBy w' v.ownBlock) (hT : T ≠ e) : Blk w' m T cs := by
  refine (hg.block m hb.lt ?_).trans hb
  intro e1
  rcases ho.2 with ⟨rfl, _⟩ | ⟨g, cap, cur, rfl, _, hc, _⟩
  · cases e1
  · injection e1 with e1
    subst e1
    have h1 := hc.symm.trans hb
    injection h1 with h1
    injection h1 with h2 h3
    exact hT h3.symm
theorem Cs.elem {α : Type} {w : World} {m : Nat} {f : α → List Value} {l : List α} {sz k : Nat} {x : α} (h : Cs w m 0 (l.flatMap f)) (hf : ∀ y ∈ l, (f y).length = sz) (hx : l[k]? = some x) : Cs w m (k * sz) (f x) := by
  have e1 : l.flatMap f = (l.take k).flatMap f ++ f x ++ (l.drop (k + 1)).flatMap f := by
    conv => lhs; rw [← List.take_append_drop (k + 1) l, List.flatMap_append, List.take_add_one, hx]
    simp
  have e2 : ((l.take k).flatMap f).length = k * sz := by
    have : ∀ t : List α, (∀ y ∈ t, (f y).length = sz) → (t.flatMap f).length = t.length * sz := by
      intro t
      induction t with
      | nil => intro _; simp
      | cons a s ih => intro h; simp only [List.flatMap_cons, List.length_append, List.length_cons, ih (fun y hy => h y (by simp [hy])), h a (by simp), Nat.add_mul, Nat.one_mul]; omega
    have hk : k < l.length := (List.getElem?_eq_some_iff.1 hx).1
    rw [this _ (fun y hy => hf y (List.mem_of_mem_take hy)), List.length_take, Nat.min_eq_left (by omega)]
  rw [e1] at h
  have := h.mid
  rwa [e2, Nat.zero_add] at this
theorem Fr.alloc' {S : List Nat} {a w : World} (h : Fr S a w) (cs : Array Value) (T : TypeId) : Fr S a (w.alloc (.cells cs T)) := h.alloc _
theorem build59 (s : ByteArray) (fp : By) (h : fp.length = 8) (W : World) : (Instr.build 59 #[(0, .string s), (1, .agg (Lib.byteCells fp).toArray)]).run Tryz.prog W = .ok (.agg (.string s :: Lib.byteCells fp).toArray) W := by
  match fp, h with
  | [a, b, c, d, e, f, g, h], _ => show _ = _; kernel_rfl

end Go.Proofs.YtnhafphgkipldaaGreatDoor
