/- What the writer's blocks are, and what a walk that writes them carries. Plain; no walk. Conditions: none. -/
import Derived.Test.YtnhafphgkipldaaGreatDoorStr2
namespace Go.Proofs.YtnhafphgkipldaaGreatDoor
open Go Go.RowKit

/-! ### the blocks of a file -/
/-- An index block: for each symbol how many there are up to it. -/
def idxSt (c : Def → Nat) (ds : List Def) : By × Nat := ds.foldl (fun st d => (st.1 ++ le4 ((st.2 + c d : Nat) : Int), st.2 + c d)) (le4 0, 0)
theorem idxSt_snoc (c : Def → Nat) (ds : List Def) (d : Def) : idxSt c (ds ++ [d]) = ((idxSt c ds).1 ++ le4 (((idxSt c ds).2 + c d : Nat) : Int), (idxSt c ds).2 + c d) := by simp [idxSt]
def Def.rfd (d : Def) : Rfd := ⟨d.name, d.sy⟩
def cnt (k : Nat) (d : Def) : Nat := if k = 0 then d.rels.length else if k = 1 then d.auxs.length else d.data.size
/-- The eighteen blocks. -/
def blks (F : Fil) (M : Tab) : List By :=
  [F.imports.flatMap (Imp.enc M), F.packages.flatMap (sref M), F.files.flatMap (sref M),
   F.own.flatMap (fun d => d.rfd.enc M), F.short.flatMap (fun d => d.rfd.enc M), F.hashed.flatMap (fun d => d.rfd.enc M), F.other.flatMap (fun d => d.rfd.enc M),
   F.refs.flatMap (Rfd.enc M), F.refFlags.flatMap Flg.enc, F.hashes64.flatMap le8, F.hashes.flatMap id,
   (idxSt (cnt 0) (defs F)).1, (idxSt (cnt 1) (defs F)).1, (idxSt (cnt 2) (defs F)).1,
   (defs F).flatMap (fun d => d.rels.flatMap Rel.enc), (defs F).flatMap (fun d => d.auxs.flatMap Aux.enc), (defs F).flatMap (fun d => d.data.data.toList),
   F.refNames.flatMap (Nam.enc M)]
/-- The first m offsets of blocks that begin at n; the others are 0. -/
def offs (n : Nat) (bs : List By) (m : Nat) : List Int := (List.range 19).map (fun j => if j < m then ((n + (bs.take j).flatten.length : Nat) : Int) else 0)
theorem offs_len (n : Nat) (bs : List By) (m : Nat) : (offs n bs m).length = 19 := by simp [offs]
theorem offs_get (n : Nat) (bs : List By) (m j : Nat) (hj : j < 19) : (offs n bs m)[j]? = some (if j < m then ((n + (bs.take j).flatten.length : Nat) : Int) else 0) := by
  simp [offs, hj]
theorem offs_zero (n : Nat) (bs : List By) : offs n bs 0 = [0, 0, 0, 0, 0, 0, 0, 0, 0, 0, 0, 0, 0, 0, 0, 0, 0, 0, 0] := by simp [offs]; rfl
theorem offs_set (n : Nat) (bs : List By) (m : Nat) : (offs n bs m).set m ((n + (bs.take m).flatten.length : Nat) : Int) = offs n bs (m + 1) := by
  apply List.ext_getElem?
  intro j
  simp only [offs, List.getElem?_set, List.getElem?_map, List.length_map, List.length_range]
  by_cases hj : j < 19
  · rw [List.getElem?_range hj]
    simp only [Option.map_some]
    by_cases e : m = j
    · subst e; simp [hj]
    · simp only [e, if_false]
      by_cases h1 : j < m
      · simp [h1, show j < m + 1 by omega]
      · simp [h1, show ¬ j < m + 1 by omega]
  · rw [List.getElem?_eq_none (by simpa using hj)]
    by_cases e : m = j
    · subst e; simp [hj]
    · simp [e]

theorem flat_succ (bs : List By) (m : Nat) (b : By) (h : bs[m]? = some b) : (bs.take (m + 1)).flatten = (bs.take m).flatten ++ b := by
  rw [List.take_add_one, h]; simp
theorem flatMap_succ {α : Type} (f : α → By) (l : List α) (k : Nat) (x : α) (h : l[k]? = some x) : (l.take (k + 1)).flatMap f = (l.take k).flatMap f ++ f x := by
  rw [List.take_add_one, h]; simp
theorem take_flatten_le (bs : List By) (m : Nat) : (bs.take m).flatten.length ≤ bs.flatten.length := by
  have : bs.flatten = (bs.take m).flatten ++ (bs.drop m).flatten := by rw [← List.flatten_append, List.take_append_drop]
  rw [this]; simp
/-- There is room for what a block goes on with. -/
theorem room {bs : List By} {m : Nat} {b p s r : By} (h : bs[m]? = some b) (e : b = p ++ s ++ r) : (bs.take m).flatten.length + p.length + s.length ≤ bs.flatten.length := by
  have := take_flatten_le bs (m + 1)
  rw [flat_succ bs m b h, e] at this
  simp only [List.length_append] at this
  omega
theorem flatMap_mid {α : Type} (f : α → By) (l : List α) (k : Nat) (x : α) (h : l[k]? = some x) : l.flatMap f = (l.take k).flatMap f ++ f x ++ (l.drop (k + 1)).flatMap f := by
  have hk : k < l.length := (List.getElem?_eq_some_iff.1 h).1
  conv => lhs; rw [← List.take_append_drop (k + 1) l, List.flatMap_append, flatMap_succ f l k x h]

theorem ref_len (r : Ref) : r.enc.length = 8 := rfl
theorem sref_len (M : Tab) (s : ByteArray) : (sref M s).length = 8 := rfl
theorem rfd_len (M : Tab) (r : Rfd) : (r.enc M).length = 21 := rfl
theorem rel_len (r : Rel) : r.enc.length = 23 := rfl
theorem aux_len (r : Aux) : r.enc.length = 9 := rfl
theorem flg_len (r : Flg) : r.enc.length = 10 := rfl
theorem nam_len (M : Tab) (r : Nam) : (r.enc M).length = 16 := rfl
theorem imp_len (M : Tab) (r : Imp) (h : r.ok) : (r.enc M).length = 16 := by
  have : r.fp.length = 8 := h
  simp [Imp.enc, sref_len, this]

/-! ### what the walk carries -/
/-- The writer behind the bytes l ++ s; the offsets os lie in block ob; the old memory stands. -/
def BI (i : WId) (M : Tab) (ob : Nat) (w1 : World) (os : List Int) (l : By) (x : World) : Prop :=
  Wr i x l M ∧ Fw i.B (ob :: i.S) w1 x ∧ Blk x ob 62 (os.map (Value.int .u32 ·)).toArray ∧ i.B ≤ ob ∧ i.B ≤ w1.heap.size ∧ ob < w1.heap.size
section
variable {i : WId} {M : Tab} {ob : Nat} {w1 x x' : World} {os : List Int} {l l' : By}
theorem Wr.out {g : Nat} {T : TypeId} {cs : Array Value} (h : Wr i x l M) (hb : Blk x g T cs) (h113 : T ≠ 113) (h69 : T ≠ 69) : g ∉ i.S := by
  obtain ⟨⟨sc, _, hw⟩, hB, hm, _⟩ := h
  obtain ⟨cs, hc⟩ := IsBuffer.blk hB
  simp only [WId.S, List.mem_cons, List.not_mem_nil, or_false, not_or]
  exact ⟨hb.ne hw h113, hb.ne hc h69, hb.ne_map hm⟩
theorem Wr.outS {g : Nat} (h : Wr i x l M) (hg : x.heap.size ≤ g) : g ∉ i.S := by
  obtain ⟨⟨sc, _, hw⟩, hB, hm, _⟩ := h
  obtain ⟨cs, hc⟩ := IsBuffer.blk hB
  obtain ⟨es, cl, he⟩ := hm.obj
  have h1 := Lib.lt_of_heap he
  have h2 := hw.lt
  have h3 := hc.lt
  simp only [WId.S, List.mem_cons, List.not_mem_nil, or_false, not_or]
  omega
theorem BI.fw (h : BI i M ob w1 os l x) : Fw i.B (ob :: i.S) w1 x := h.2.1
theorem BI.size (h : BI i M ob w1 os l x) : i.B ≤ x.heap.size := h.1.size
theorem BI.post {e : Ending} (h : BI i M ob w1 os l x) (k : WPost i x l' M e x') : BI i M ob w1 os l' x' :=
  ⟨k.2.1, h.2.1.trans (k.2.2.mono (fun y hy => .inl (List.mem_cons_of_mem _ hy))), k.2.2.blk (h.1.out h.2.2.1 (by decide) (by decide)) (by decide) h.2.2.1, h.2.2.2⟩
theorem BI.alloc (h : BI i M ob w1 os l x) (o : Obj) : BI i M ob w1 os l (x.alloc o) :=
  ⟨h.1.alloc o, h.2.1.alloc h.1.size o, h.2.2.1.alloc o, h.2.2.2⟩
theorem BI.drew (h : BI i M ob w1 os l x) : BI i M ob w1 os l x.drew := ⟨h.1, h.2.1.drew, h.2.2.1, h.2.2.2⟩
theorem BI.drewN (h : BI i M ob w1 os l x) (n : Nat) : BI i M ob w1 os l (x.drewN n) := ⟨h.1.drewN n, h.2.1.drewN n, h.2.2.1.drewN n, h.2.2.2⟩
theorem BI.fr0 (h : BI i M ob w1 os l x) (f : Fr [] x x') : BI i M ob w1 os l x' :=
  ⟨h.1.keep f (by simp), h.2.1.trans (Fw.of_fr f h.1.size (by simp)), f.blk (by simp) h.2.2.1, h.2.2.2⟩
theorem BI.newSet {T : TypeId} {cs : Array Value} (h : BI i M ob w1 os l x) (f : Fr [x.heap.size] (x.alloc (.cells cs T)) x') (h5 : T ≠ 5) (h113 : T ≠ 113) (h69 : T ≠ 69) : BI i M ob w1 os l x' :=
  ⟨(h.1.alloc _).keep f (not_row (Blk.new x T cs) h5 h113 h69), (h.2.1.alloc h.1.size _).thenNew f h.2.2.2.2.1 h.2.1.size, f.blk (by simp only [List.mem_singleton]; have := h.2.2.1.lt; omega) (h.2.2.1.alloc _), h.2.2.2⟩
theorem BI.cell (h : BI i M ob w1 os l x) (j : Nat) (v : Int) (hj : os[j]? = some v) : x.cell? ⟨ob, j, none⟩ = some (.int .u32 v) := by
  rw [h.2.2.1.cell]; simp [hj]
theorem BI.frozen (h : BI i M ob w1 os l x) (j : Nat) : x.frozen? ⟨ob, j, none⟩ = false := h.2.2.1.frozen j
theorem BI.set (h : BI i M ob w1 os l x) (j : Nat) (v : Int) : BI i M ob w1 (os.set j v) l (x.setCell ⟨ob, j, none⟩ (.int .u32 v)) := by
  refine ⟨h.1.keep (S := [ob]) ((Fr.refl [ob] x).set (.inl (by simp)) _) ?_, h.2.1.set h.2.2.2.1 (.inl (by simp)) _, ?_, h.2.2.2⟩
  · intro g hg
    simp only [List.mem_singleton] at hg
    exact .inr ⟨62, _, by rw [hg]; exact h.2.2.1, by decide, by decide, by decide⟩
  · have := h.2.2.1.set j (.int .u32 v)
    have e : (os.map (Value.int .u32 ·)).toArray.setIfInBounds j (.int .u32 v) = ((os.set j v).map (Value.int .u32 ·)).toArray := by
      rw [List.setIfInBounds_toArray, List.map_set]
    rwa [e] at this
/-- A frame that may turn what the offsets' walk may. -/
theorem BI.post' (h : BI i M ob w1 os l x) {os' : List Int} (k1 : Wr i x' l' M) (k2 : Fw i.B (ob :: i.S) x x') (k3 : Blk x' ob 62 (os'.map (Value.int .u32 ·)).toArray) : BI i M ob w1 os' l' x' :=
  ⟨k1, h.2.1.trans k2, k3, h.2.2.2⟩
end

end Go.Proofs.YtnhafphgkipldaaGreatDoor
