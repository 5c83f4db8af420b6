/- spec.All: all symbols of a file as one list. Conditions: its lists are no longer than zzFits6 lets by. -/
import Derived.Test.YtnhafphgkipldaaGreatDoorF6
import Derived.Test.YtnhafphgkipldaaGreatDoorRz
namespace Go.Proofs.YtnhafphgkipldaaGreatDoor
open Go Go.RowKit

theorem run_append_zero {P : Program} {w : World} (base : Nat) (t ty e : TypeId) (i : TypeInfo) (size : Nat) (ht : P.underlying t = some (.slice e)) (hi : P.info? e = some i)
    (v : Value) (n : Nat) (xs : List Value) (hown : w.ownsRow base e size v n xs) (A : Option Addr) (c : Nat) :
    (Builtin.append_ #[t, t] ty #[v, .slice A 0 c]).run P w = .ok v w := by
  rcases hown.2 with ⟨rfl, rfl⟩ | ⟨g, cap, cur, rfl, _, _, hnc, _⟩ <;> cases A <;>
    simp [Builtin.append_, run_underlying ht, sizeOf, typeInfo, hi, Builtin.lenOf, Builtin.firstCells, loadCells, loadCellsFrom, storeCells, *]
/-- append of whatever slice to a slice of the call's own. -/
theorem wpList_append_sl {P : Program} {w : World} {ops : Array Oper} {rest : List Oper} {o : Oper} {a : Act} {Q : Exit → Act → World → Prop} (hgd : o.guard = none) (s x : Operand) (t : TypeId)
    (ho : o.op = .call { callee := .builtin .append, args := #[s, x], argTypes := #[t, t] })
    (base : Nat) (e : TypeId) (i : TypeInfo) (z : Value) (size bytes : Nat) (ht : P.underlying t = some (.slice e)) (hi : P.info? e = some i) (hz : i.zero = some z)
    (hsize : i.size = size) (hby : i.bytes = bytes) (hzs : z.cells.size = size) (hsz : 0 < size)
    (v : Value) (n : Nat) (xs : List Value) (hs : a.eval s = v) (hown : w.ownsRow base e size v n xs)
    (A : Option Addr) (m c : Nat) (news : List Value) (hx : a.eval x = .slice A m c) (hl : news.length = m * size) (hnews : m ≠ 0 → ∃ b off, A = some ⟨b, off, none⟩ ∧ Cs w b off news) (h1 : ∀ u ∈ news, u.oneCell' = true)
    (h63 : n + m ≤ maxLen) (hbytes : (n + m) * bytes ≤ 140737488355328) (hbase : base ≤ w.heap.size)
    (h : ∀ v' w', w'.ownsRow base e size v' (n + m) (xs ++ news) → w.grownBy w' v.ownBlock → wpList P ops Q rest (a.put o.dst v') w') : wpList P ops Q (o :: rest) a w := by
  by_cases hm : m = 0
  · subst hm
    have hn : news = [] := List.eq_nil_of_length_eq_zero (by rw [hl]; simp)
    subst hn
    refine wpList_plain hgd fun K hK => ?_
    have hrun := run_append_zero (P := P) (w := w) base t o.type e i size ht hi v n xs hown A c
    unfold Oper.wp
    simp [execOp, ho, resolve, invoke, builtin, hs, hx, hrun, Result.andThen]
    exact hK _ _ (h v w (by simpa using hown) ⟨rfl, rfl, rfl, Nat.le_refl _, fun _ _ _ => rfl⟩)
  · obtain ⟨b, off, rfl, hc⟩ := hnews hm
    exact wpList_append_own w hgd s x t ho base e i z size bytes ht hi hz hsize hby hzs hsz v n xs hs hown ⟨b, off, none⟩ m c news hx hl hc.addr h1 h63 hbytes hbase (fun v' w' k1 k2 _ => h v' w' k1 k2)

theorem Cs_flatten {w : World} {b : Nat} (sz : Nat) : ∀ (css : List (List Value)) (off : Nat), (∀ (i : Nat) (cs : List Value), css[i]? = some cs → cs.length = sz ∧ Cs w b (off + i * sz) cs) → Cs w b off css.flatten
  | [], _, _ => by simpa using Cs.nil
  | c :: r, off, h => by
    have h0 := h 0 c rfl
    rw [List.flatten_cons]
    refine Cs.join (by simpa using h0.2) ?_
    rw [h0.1]
    refine Cs_flatten sz r (off + sz) (fun i cs hi => ?_)
    have := h (i + 1) cs (by simpa using hi)
    refine ⟨this.1, ?_⟩
    have e : off + sz + i * sz = off + (i + 1) * sz := by rw [Nat.add_mul]; omega
    rw [e]; exact this.2
/-- The cells of a list that a slice reads as. -/
theorem Sl.cells {α : Type} {sz : Nat} {R : α → List Value → Prop} {w : World} {v : Value} {l : List α} (h : Sl sz R w v l) : ∃ (A : Option Addr) (c : Nat) (css : List (List Value)), v = .slice A l.length c ∧ css.length = l.length ∧ (∀ (i : Nat) (x : α), l[i]? = some x → ∃ cs, css[i]? = some cs ∧ R x cs ∧ cs.length = sz) ∧ (l ≠ [] → ∃ b off, A = some ⟨b, off, none⟩ ∧ Cs w b off css.flatten) := by
  obtain ⟨b, off, c, A, hv, hA, hE⟩ := h.elim
  classical
  have hch : ∀ i : Nat, i < l.length → ∃ cs : List Value, (∀ x, l[i]? = some x → R x cs) ∧ cs.length = sz ∧ Cs w b (off + i * sz) cs := by
    intro i hi
    obtain ⟨cs, h1, h2, h3⟩ := hE i l[i] (List.getElem?_eq_getElem hi)
    exact ⟨cs, fun x hx => by rw [List.getElem?_eq_getElem hi] at hx; injection hx with hx; rw [← hx]; exact h1, h2, h3⟩
  let f : Nat → List Value := fun i => if hi : i < l.length then Classical.choose (hch i hi) else []
  have hf : ∀ i (hi : i < l.length), (∀ x, l[i]? = some x → R x (f i)) ∧ (f i).length = sz ∧ Cs w b (off + i * sz) (f i) := by
    intro i hi
    have : f i = Classical.choose (hch i hi) := dif_pos hi
    rw [this]; exact Classical.choose_spec (hch i hi)
  refine ⟨A, c, (List.range l.length).map f, hv, by simp, fun i x hx => ?_, fun hne => ⟨b, off, hA hne, Cs_flatten sz _ _ (fun i cs hi => ?_)⟩⟩
  · have hi : i < l.length := (List.getElem?_eq_some_iff.1 hx).1
    exact ⟨f i, by simp [hi], (hf i hi).1 x hx, (hf i hi).2.1⟩
  · have hi' : i < l.length := by
      rcases Nat.lt_or_ge i l.length with h1 | h1
      · exact h1
      · rw [List.getElem?_eq_none (by simpa using h1)] at hi; cases hi
    have : cs = f i := by simp [hi'] at hi; exact hi.symm
    rw [this]; exact (hf i hi').2
/-- A list of symbols that is put together out of a file's lists. -/
def AL (w : World) (t : Value) (x : World) (ds : List Def) : Prop :=
  ∃ css : List (List Value), css.length = ds.length ∧ x.ownsRow w.heap.size 51 10 t ds.length css.flatten ∧ (∀ (i : Nat) (d : Def), ds[i]? = some d → ∃ cs, css[i]? = some cs ∧ DefR w d cs ∧ cs.length = 10) ∧ Fr [] w x
theorem flat_len {sz : Nat} : ∀ (css : List (List Value)), (∀ c ∈ css, c.length = sz) → css.flatten.length = css.length * sz
  | [], _ => by simp
  | c :: r, h => by rw [List.flatten_cons, List.length_append, h c (by simp), flat_len r (fun c' hc => h c' (by simp [hc])), List.length_cons, Nat.add_mul]; omega
theorem AL.sl {w x : World} {t : Value} {ds : List Def} (h : AL w t x ds) : Sl 10 (DefR x) x t ds := by
  obtain ⟨css, h1, h2, h3, hf⟩ := h
  have hlen : ∀ c ∈ css, c.length = 10 := by
    intro c hc
    obtain ⟨j, hj⟩ := List.mem_iff_getElem?.1 hc
    have hjl := (List.getElem?_eq_some_iff.1 hj).1
    obtain ⟨cs, a, _, b⟩ := h3 j ds[j] (List.getElem?_eq_getElem (by omega))
    rw [hj] at a; injection a with a
    rw [a]; exact b
  have e : css.flatMap id = css.flatten := by simp [List.flatMap]
  have hs := own_sl (f := id) (l := css) (R := fun c cs => c = cs) (sz := 10) (n := ds.length) (v := t) (w := x) (e := 51) (B := w.heap.size) (by rw [e]; exact h2) h1.symm (fun c hc => ⟨hlen c hc, rfl⟩) (by decide)
  obtain ⟨A, c, hv, hrest⟩ := hs
  refine ⟨A, c, by rw [hv, h1], fun hne => ?_⟩
  obtain ⟨b, off, hA, hel⟩ := hrest (by intro e; rw [e] at h1; exact hne (List.eq_nil_of_length_eq_zero h1.symm))
  refine ⟨b, off, hA, fun i d hd => ?_⟩
  obtain ⟨cs, a, k, _⟩ := h3 i d hd
  obtain ⟨cs2, e1, e2, e3⟩ := hel i cs a
  subst e1
  exact ⟨cs, DefR.old hf.below d cs k, e2, e3⟩
theorem AL.app {w y : World} {t' : Value} {ds ls : List Def} {css css' : List (List Value)} (hl : css.length = ds.length) (hd : ∀ (i : Nat) (d : Def), ds[i]? = some d → ∃ cs, css[i]? = some cs ∧ DefR w d cs ∧ cs.length = 10) (hl' : css'.length = ls.length) (hd' : ∀ (i : Nat) (d : Def), ls[i]? = some d → ∃ cs, css'[i]? = some cs ∧ DefR w d cs ∧ cs.length = 10)
    (ho : y.ownsRow w.heap.size 51 10 t' (ds.length + ls.length) (css.flatten ++ css'.flatten)) (hf : Fr [] w y) : AL w t' y (ds ++ ls) := by
  refine ⟨css ++ css', by simp [hl, hl'], by simpa using ho, fun i d h => ?_, hf⟩
  by_cases hi : i < ds.length
  · rw [List.getElem?_append_left hi] at h
    obtain ⟨cs, a, b⟩ := hd i d h
    exact ⟨cs, by rw [List.getElem?_append_left (by omega)]; exact a, b⟩
  · rw [List.getElem?_append_right (by omega)] at h
    obtain ⟨cs, a, b⟩ := hd' _ d h
    exact ⟨cs, by rw [List.getElem?_append_right (by omega), hl]; exact a, b⟩

set_option maxHeartbeats 1600000 in
set_option maxRecDepth 100000 in
theorem all_any (F : Fil) (v : Value) (w : World) (hS : Short F) (h : FilR w v F) : Calls Tryz.prog 14 #[v] w fun e w' => ∃ V, e = .returned V ∧ Sl 10 (DefR w') w' V (defs F) ∧ Fr [] w w' := by
  obtain ⟨cs, v0, v1, v2, v3, v4, v5, v6, v7, v8, v9, v10, v11, rfl, hc, hk⟩ := h
  have HC := Lib.hid hc
  have hsl : ∀ (k : Nat) (u : Value) (ls : List Def), [v3, v4, v5, v6][k]? = some u → (LL F)[k]? = some ls → Sl 10 (DefR w) w u ls := by
    intro k u ls hu hls
    match k, hu, hls with
    | 0, hu, hls => cases hu; cases hls; exact hk.s3
    | 1, hu, hls => cases hu; cases hls; exact hk.s4
    | 2, hu, hls => cases hu; cases hls; exact hk.s5
    | 3, hu, hls => cases hu; cases hls; exact hk.s6
    | n + 4, hu, hls => simp at hu
  have hle : ∀ (k : Nat) (ls : List Def), (LL F)[k]? = some ls → ((LL F).take k).flatten.length + ls.length ≤ 8589934588 := by
    intro k ls hls
    have h1 := LL_le F k ls hls
    have h2 : (defs F).length = F.own.length + F.short.length + F.hashed.length + F.other.length := by simp [defs, Nat.add_assoc]
    have := hS.1; have := hS.2.1; have := hS.2.2.1; have := hS.2.2.2
    omega
  obtain ⟨A3, k3, e3, -⟩ := hk.s3
  obtain ⟨A4, k4, e4, -⟩ := hk.s4
  obtain ⟨A5, k5, e5, -⟩ := hk.s5
  obtain ⟨A6, k6, e6, -⟩ := hk.s6
  subst e3; subst e4; subst e5; subst e6
  have T0 := Lib.hid (Box.new (cs := cs) hk)
  have HSL := Lib.hid hsl; have HLE := Lib.hid hle
  clear hsl hle hc hk hS
  go_enter Tryz.func14, Tryz.ntmps14
  go_wp2_with ((with_reducible refine selD 7 ?_); refine Hid.out ?_)
  refine Lib.hid ?_
  generalize hgA : w.heap.size = gA at T0 ⊢
  have HGA := Lib.hid hgA
  clear hgA
  have O0 := World.ownsRow_lit (base := gA) (size := 10) (e := 51) (w.alloc (.cells cs.toArray 33)) #[] 0 (by simp [HGA.out]) (by decide) rfl
  have hsz : (w.alloc (.cells cs.toArray 33)).heap.size = gA + 1 := by simp [HGA.out]
  rw [hsz] at O0
  have T1 := Lib.hid (T0.out.fr0 ((Fr.refl [] (w.alloc (.cells cs.toArray 33))).alloc (.cells #[] 51)))
  have AL0 : Hid (AL w (.slice (some ⟨gA + 1, 0, none⟩) 0 0) ((w.alloc (.cells cs.toArray 33)).alloc (.cells #[] 51)) []) := Lib.hid ⟨[], rfl, by rw [HGA.out]; exact O0, fun i d h => by simp at h, T1.out.fr⟩
  clear O0 hsz T0
  generalize (w.alloc (.cells cs.toArray 33)).alloc (.cells #[] 51) = z1 at T1 AL0 ⊢
  have a12 := T1.out.cell 12 _ HC.out.e3; have a13 := T1.out.cell 13 _ HC.out.e4; have a14 := T1.out.cell 14 _ HC.out.e5; have a15 := T1.out.cell 15 _ HC.out.e6
  go_wp2_with fail
  clear a12 a13 a14 a15
  go_loopw [16, 3] (fun c0 t y => ∃ k : Nat, k ≤ 4 ∧ c0 = .int .i64 k ∧ AL w t y (((LL F).take k).flatten)) (fun c _ _ => 4 - (intOf c).toNat)
  case atStart => exact ⟨0, by omega, rfl, AL0.out⟩
  case round =>
    obtain ⟨k, hk, rfl, ha⟩ := hrel
    have HA := Lib.hid ha
    clear ha
    by_cases hlt : k < 4
    · obtain ⟨ls, hls⟩ : ∃ ls, (LL F)[k]? = some ls := ⟨_, List.getElem?_eq_getElem (by simpa [LL] using hlt)⟩
      obtain ⟨u, hu⟩ : ∃ u, [Value.slice A3 F.own.length k3, Value.slice A4 F.short.length k4, Value.slice A5 F.hashed.length k5, Value.slice A6 F.other.length k6][k]? = some u := ⟨_, List.getElem?_eq_getElem (by simpa using hlt)⟩
      obtain ⟨A, c, css', rfl, hl', hd', hcs'⟩ := (HSL.out k u ls hu hls).cells
      have hix : ∀ z, (Instr.index 84 (.agg #[Value.slice A3 F.own.length k3, Value.slice A4 F.short.length k4, Value.slice A5 F.hashed.length k5, Value.slice A6 F.other.length k6]) (.int .i64 k)).run Tryz.prog z = .ok (.slice A ls.length c) z := fun z => run_index_arr (t := 84) (e := 26) (n := 4) (by kernel_rfl) (fun _ => by kernel_rfl) (fun _ => by kernel_rfl) _ k hlt _ (by simpa using hu) z
      have hbd := HLE.out k ls hls
      obtain ⟨css, hl, hown, hd, hf⟩ := HA.out
      have HLS := Lib.hid hls; have HBD := Lib.hid hbd; have HL := Lib.hid hl; have HOWN := Lib.hid hown; have HD := Lib.hid hd; have HF := Lib.hid hf; have HL' := Lib.hid hl'; have HD' := Lib.hid hd'; have HCS' := Lib.hid hcs'
      have HFL : Hid (css'.flatten.length = ls.length * 10) := Lib.hid (by
        rw [← hl']
        refine flat_len css' (fun c' hc' => ?_)
        obtain ⟨j, hj⟩ := List.mem_iff_getElem?.1 hc'
        have hjl := (List.getElem?_eq_some_iff.1 hj).1
        obtain ⟨cs2, a, _, b⟩ := hd' j ls[j] (List.getElem?_eq_getElem (by omega))
        rw [hj] at a; injection a with a
        rw [a]; exact b)
      have HON : Hid (∀ q ∈ css'.flatten, q.oneCell' = true) := Lib.hid (by
        intro q hq
        obtain ⟨c', hc', hq'⟩ := List.mem_flatten.1 hq
        obtain ⟨j, hj⟩ := List.mem_iff_getElem?.1 hc'
        have hjl := (List.getElem?_eq_some_iff.1 hj).1
        obtain ⟨cs2, a, hR, b⟩ := hd' j ls[j] (List.getElem?_eq_getElem (by omega))
        rw [hj] at a; injection a with a
        exact def_one hR q (by rw [← a]; exact hq'))
      have HNW : Hid (ls.length ≠ 0 → ∃ b off, A = some ⟨b, off, none⟩ ∧ Cs wr b off css'.flatten) := Lib.hid (by
        intro hne
        obtain ⟨b, off, e1, e2⟩ := hcs' (by rintro rfl; exact hne rfl)
        exact ⟨b, off, e1, hf.cs (by simp) e2⟩)
      clear hls hu hl' hd' hcs' hbd hl hown hd hf HA
      go_wp2_with ((with_reducible refine selD 21 ?_); go_must (refine wpList_append_sl rfl _ _ 26 rfl w.heap.size 51 _ _ 10 96 (by rfl) (by rfl) (by rfl) (by rfl) (by rfl) (by rfl) (by decide) _ _ css.flatten rfl HOWN.out A ls.length c css'.flatten rfl HFL.out HNW.out HON.out (by have := HBD.out; simp only [maxLen]; omega) (by have := HBD.out; omega) HF.out.size ?_; intro v' w7 ho7 hg7; refine Hid.out ?_))
      refine Lib.hid ?_
      have HA2 : Hid (AL w v' w7 (((LL F).take (k + 1)).flatten)) := Lib.hid (by
        rw [show (LL F).take (k + 1) = (LL F).take k ++ [ls] from by rw [List.take_add_one, HLS.out]; rfl, List.flatten_append]
        have := AL.app HL.out HD.out HL'.out HD'.out ho7 (frS_grown HF.out HOWN.out (Nat.le_refl _) hg7)
        simpa using this)
      obtain ⟨A7, c7, rfl⟩ := own_shape ho7
      clear ho7 hg7 hix
      go_wp2
      go_roundw
      case rel => exact ⟨k + 1, by omega, by go_num, HA2.out⟩
      case measure => simp [intOf]; omega
    · have e : k = 4 := by omega
      subst e
      have h1 := HA.out
      rw [show (LL F).take 4 = LL F from rfl, LL_all] at h1
      have HA1 := Lib.hid h1
      obtain ⟨A7, c7, e7, -⟩ := h1.sl
      clear h1 HA
      subst e7
      go_wp2
      go_ret
      exact ⟨_, rfl, HA1.out.sl, HA1.out.elim fun _ h => h.2.2.2⟩

end Go.Proofs.YtnhafphgkipldaaGreatDoor
