/- The writer: what it holds (a buffer of bytes, a table of strings with their places), and the contracts of its methods. Conditions: the bytes written stay below 2^31. -/
import Derived.Test.YtnhafphgkipldaaGreatDoorLe
import Derived.Test.YtnhafphgkipldaaGreatDoorShelf
import Derived.Lib.BufferOld
import Derived.Maps.OwnSet
import Derived.StringKeys
import Derived.StillTailTactics
import Derived.WalkLawsBesides
import Derived.WalkSpells
namespace Go.Proofs.YtnhafphgkipldaaGreatDoor
open Go Go.RowKit

/-! ### the table of strings -/
theorem strLaw : Go.Maps.Keyed Tryz.prog 9 := Go.Maps.string_keyed Tryz.underlying9
theorem zero23 (w : World) : (zeroValue 23).run Tryz.prog w = .ok (.int .u32 0) w := by kernel_rfl
theorem u32_wf {o : Int} (h : 0 ≤ o ∧ o < 4294967296) : (Lit.int .u32 o).wf = true := WalkArith.wf_u32 (by omega)

/-- Block mb is a map that reads as the table M. -/
def MapIs (w : World) (mb : Nat) (M : Tab) : Prop :=
  ∃ D : DataW Unit, w.ownsMap Tryz.prog 9 (plainElem Tryz.prog 23) mb M.length D ∧ Go.Maps.IsMap D ∧
    ∀ s : By, (tlook M s = none → Go.Maps.has D (.string s) = false) ∧ (∀ o, tlook M s = some o → Go.Maps.has D (.string s) = true ∧ ∀ z, D.atKey (.string s) z = .lit (.int .u32 o))

theorem MapIs.made (w : World) : MapIs (w.alloc (.map #[] 0)) w.heap.size [] :=
  ⟨.map [], World.ownsMap_made _ _ _ _, Go.Maps.isMap_empty, fun s => ⟨fun _ => rfl, fun o h => by simp [tlook] at h⟩⟩

theorem MapIs.keep {w w' : World} {mb : Nat} {M : Tab} (h : MapIs w mb M) (hb : w'.heap[mb]? = w.heap[mb]?) : MapIs w' mb M := by
  obtain ⟨D, ⟨es, clock, he, F, hs, hD⟩, hm, hl⟩ := h
  exact ⟨D, ⟨es, clock, hb.trans he, F, hs, hD⟩, hm, hl⟩
theorem MapIs.obj {w : World} {mb : Nat} {M : Tab} (h : MapIs w mb M) : ∃ es clock, w.heap[mb]? = some (.map es clock) := by
  obtain ⟨D, ⟨es, clock, he, _⟩, _⟩ := h
  exact ⟨es, clock, he⟩

theorem MapIs.look_none {w : World} {mb : Nat} {M : Tab} (h : MapIs w mb M) (s : ByteArray) (hs : s.size ≤ maxLen) (hl : tlook M s.data.toList = none) :
    (Instr.lookup 111 (.map (some mb)) (.string s) true).run Tryz.prog w = .ok (.tuple #[.int .u32 0, .bool false]) w := by
  obtain ⟨D, ho, hm, hf⟩ := h
  obtain ⟨v, ps, hrun, hv⟩ := ho.look_ok strLaw Tryz.underlying111 (zero23 w) (plainElem_int Tryz.underlying23 (u32_wf (by omega))) (Go.WideMaps.keyOf_string_mk Tryz.underlying9 hs)
  have h0 := (hf s.data.toList).1 hl
  rw [Go.Maps.atKey_of_not_has h0] at hv
  obtain ⟨c, rfl, hc, _⟩ := plainElem_int_inv Tryz.underlying23 hv
  simp only [Prod.mk.injEq, DataW.lit.injEq, Lit.int.injEq] at hc
  rw [hrun, h0, ← hc.1.2]
theorem MapIs.look_some {w : World} {mb : Nat} {M : Tab} (h : MapIs w mb M) (s : ByteArray) (hs : s.size ≤ maxLen) (o : Int) (hl : tlook M s.data.toList = some o) :
    (Instr.lookup 111 (.map (some mb)) (.string s) true).run Tryz.prog w = .ok (.tuple #[.int .u32 o, .bool true]) w := by
  obtain ⟨D, ho, hm, hf⟩ := h
  obtain ⟨v, ps, hrun, hv⟩ := ho.look_ok strLaw Tryz.underlying111 (zero23 w) (plainElem_int Tryz.underlying23 (u32_wf (by omega))) (Go.WideMaps.keyOf_string_mk Tryz.underlying9 hs)
  obtain ⟨h0, h1⟩ := (hf s.data.toList).2 o hl
  rw [h1] at hv
  obtain ⟨c, rfl, hc, _⟩ := plainElem_int_inv Tryz.underlying23 hv
  simp only [Prod.mk.injEq, DataW.lit.injEq, Lit.int.injEq] at hc
  rw [hrun, h0, ← hc.1.2]
theorem MapIs.store {w : World} {mb : Nat} {M : Tab} (h : MapIs w mb M) (s : ByteArray) (hs : s.size ≤ maxLen) (o : Int) (ho : 0 ≤ o ∧ o < 4294967296) (hM : M.length < maxLen) :
    ∃ w', (Instr.mapUpdate 111 (.map (some mb)) (.string s) (.int .u32 o)).run Tryz.prog w = .ok () w' ∧ MapIs w' mb ((s.data.toList, o) :: M) ∧ Fr [mb] w w' := by
  obtain ⟨D, hown, hm, hf⟩ := h
  obtain ⟨w', hrun, h1, hg⟩ := hown.update strLaw Tryz.underlying111 hM (Go.WideMaps.keyOf_string_mk Tryz.underlying9 hs) (plainElem_int Tryz.underlying23 (u32_wf ho))
  refine ⟨w', hrun, ⟨_, h1, hm.put _ _, fun t => ?_⟩, ⟨hg.os, hg.tape, hg.output, hg.size, fun k hk hn => hg.block k hk (by simpa using hn)⟩⟩
  rw [tlook_cons]
  have hk : WideAt.IsKeyLit (.string s.data.toList) := by trivial
  by_cases e : s.data.toList = t
  · rw [if_pos e]; subst e
    refine ⟨fun h => by simp at h, fun o' h => ?_⟩
    obtain rfl : o = o' := by simpa using h
    exact ⟨Go.Maps.has_put_same hm hk _, fun z => Go.Maps.atKey_put_same hm hk _ z⟩
  · rw [if_neg e]
    have hne : Lit.string t ≠ .string s.data.toList := fun h => e (Lit.string.inj h).symm
    refine ⟨fun h => (Go.Maps.has_put_other hne _).trans ((hf t).1 h), fun o' h => ?_⟩
    obtain ⟨h1, h2⟩ := (hf t).2 o' h
    exact ⟨(Go.Maps.has_put_other hne _).trans h1, fun z => (Go.Maps.atKey_put_other hne _ z).trans (h2 z)⟩

/-! ### the writer -/
structure WId where
  B : Nat
  wb : Nat
  bb : Nat
  mb : Nat
def WId.S (i : WId) : List Nat := [i.wb, i.bb, i.mb]
/-- The cells of the writer's struct: its buffer, its table, how many bytes it has written, eight bytes of scratch. -/
def wcells (i : WId) (n : Int) (sc : By) : List Value := .pointer (some ⟨i.bb, 0, none⟩) :: .map (some i.mb) :: .int .u32 n :: Lib.byteCells sc
/-- The writer has written the bytes l and knows the strings of M. -/
def Wr (i : WId) (w : World) (l : By) (M : Tab) : Prop :=
  (∃ sc : By, sc.length = 8 ∧ Blk w i.wb 113 (wcells i l.length sc).toArray) ∧ Lib.IsBuffer 69 5 i.B i.bb (Lib.byteCells l) w ∧ MapIs w i.mb M ∧ i.B ≤ i.wb ∧ i.B ≤ i.mb ∧ l.length < 2147483648

theorem IsBuffer.blk {B b : Nat} {bs : List Value} {w : World} (h : Lib.IsBuffer 69 5 B b bs w) : ∃ cs, Blk w b 69 cs := by
  obtain ⟨_, v, lr, hb, _⟩ := h; exact ⟨_, hb⟩
theorem Blk.ne {w : World} {g g' : Nat} {T T' : TypeId} {cs cs' : Array Value} (h : Blk w g T cs) (h' : Blk w g' T' cs') (hT : T ≠ T') : g ≠ g' := by
  rintro rfl
  unfold Blk at h h'
  rw [h] at h'
  injection h' with h'; injection h' with _ h' _; exact hT h'
theorem Blk.ne_map {w : World} {g g' : Nat} {T : TypeId} {cs : Array Value} {M : Tab} (h : Blk w g T cs) (h' : MapIs w g' M) : g ≠ g' := by
  rintro rfl
  obtain ⟨es, c, he⟩ := h'.obj
  unfold Blk at h
  rw [h] at he; cases he

section
variable {i : WId} {w w' : World} {l : By} {M : Tab}
theorem Wr.ne (h : Wr i w l M) : i.wb ≠ i.bb ∧ i.wb ≠ i.mb ∧ i.bb ≠ i.mb := by
  obtain ⟨⟨sc, _, hb⟩, hB, hm, _⟩ := h
  obtain ⟨cs, hc⟩ := IsBuffer.blk hB
  exact ⟨hb.ne hc (by decide), hb.ne_map hm, hc.ne_map hm⟩
theorem Wr.size (h : Wr i w l M) : i.B ≤ w.heap.size := by
  obtain ⟨_, hB, _⟩ := h
  have := hB.lt; have := hB.1; omega
theorem IsBuffer.keep {B b : Nat} {bs : List Value} (h : Lib.IsBuffer 69 5 B b bs w) (hb : w'.heap[b]? = w.heap[b]?) (hr : ∀ (g : Nat) (c : Array Value) (fz : Nat × Nat), w.heap[g]? = some (Obj.cells c 5 fz) → w'.heap[g]? = w.heap[g]?) : Lib.IsBuffer 69 5 B b bs w' := by
  obtain ⟨hB, v, lr, hbk, hown, hne⟩ := h
  refine ⟨hB, v, lr, hb.trans hbk, ⟨hown.1, ?_⟩, hne⟩
  rcases hown.2 with hn | ⟨g, cap, cur, hv, hbg, hg, rest⟩
  · exact .inl hn
  · exact .inr ⟨g, cap, cur, hv, hbg, (hr _ _ _ hg).trans hg, rest⟩
/-- What turns neither the writer nor a row of bytes leaves the writer as it is. -/
theorem Wr.keep {S : List Nat} (h : Wr i w l M) (f : Fr S w w') (hS : ∀ g ∈ S, w.heap.size ≤ g ∨ ∃ T cs, Blk w g T cs ∧ T ≠ 5 ∧ T ≠ 113 ∧ T ≠ 69) : Wr i w' l M := by
  have hne := h.ne
  obtain ⟨⟨sc, hsc, hb⟩, hB, hm, h1, h2, h3⟩ := h
  obtain ⟨cs, hc⟩ := IsBuffer.blk hB
  obtain ⟨es, cl, he⟩ := hm.obj
  have n1 : i.wb ∉ S := fun hx => by
    rcases hS _ hx with h | ⟨T, cs, hk, _, hT, _⟩
    · have := hb.lt; omega
    · exact hk.ne hb hT rfl
  have n2 : i.bb ∉ S := fun hx => by
    rcases hS _ hx with h | ⟨T, cs, hk, _, _, hT⟩
    · have := hc.lt; omega
    · exact hk.ne hc hT rfl
  have n3 : i.mb ∉ S := fun hx => by
    rcases hS _ hx with h | ⟨T, cs, hk, _⟩
    · have := Lib.lt_of_heap he; omega
    · exact hk.ne_map hm rfl
  refine ⟨⟨sc, hsc, f.blk n1 hb⟩, IsBuffer.keep hB (f.block _ hc.lt n2) (fun g c fz hg => f.block g (Lib.lt_of_heap hg) (fun hx => ?_)), hm.keep (f.block _ (Lib.lt_of_heap he) n3), h1, h2, h3⟩
  rcases hS _ hx with h | ⟨T, cs, hk, hT, _⟩
  · have := Lib.lt_of_heap hg; omega
  · unfold Blk at hk
    rw [hk] at hg; injection hg with hg; injection hg with _ hg _; exact hT hg
theorem Wr.alloc (h : Wr i w l M) (o : Obj) : Wr i (w.alloc o) l M := h.keep (S := []) ((Fr.refl [] w).alloc o) (by simp)
theorem Wr.drew (h : Wr i w l M) : Wr i w.drew l M := h
theorem Wr.drewN (h : Wr i w l M) (n : Nat) : Wr i (w.drewN n) l M := h
/-- The three cells that the methods read. -/
theorem Wr.cells (h : Wr i w l M) : w.cell? ⟨i.wb, 0, none⟩ = some (.pointer (some ⟨i.bb, 0, none⟩)) ∧ w.cell? ⟨i.wb, 1, none⟩ = some (.map (some i.mb)) ∧ w.cell? ⟨i.wb, 2, none⟩ = some (.int .u32 l.length) ∧ w.frozen? ⟨i.wb, 2, none⟩ = false := by
  obtain ⟨⟨sc, hsc, hb⟩, _⟩ := h
  exact ⟨by rw [hb.cell]; rfl, by rw [hb.cell]; rfl, by rw [hb.cell]; rfl, hb.frozen 2⟩
end

/-- Behind a write into the buffer the count's cell still stands. -/
theorem Wr.count {i : WId} {w w1 : World} {l : By} {M : Tab} (h : Wr i w l M) (hk : Lib.OthersKept 5 (some i.bb) w w1) : w1.cell? ⟨i.wb, 2, none⟩ = some (.int .u32 l.length) ∧ w1.frozen? ⟨i.wb, 2, none⟩ = false := by
  have hne := h.ne
  obtain ⟨⟨sc, hsc, hbk⟩, hB0, hm, h1, h2, h3⟩ := h
  have hbk1 : Blk w1 i.wb 113 (wcells i l.length sc).toArray := hk i.wb _ hbk (by simp [hne.1]) (by intro c fz; simp)
  exact ⟨by rw [hbk1.cell]; rfl, hbk1.frozen 2⟩
/-- Behind a write into the scratch. -/
theorem Wr.scratch {i : WId} {w w1 : World} {l : By} {M : Tab} (h : Wr i w l M) (f : Fr [i.wb] w w1) (sc : By) (hsc : sc.length = 8) (hb : Blk w1 i.wb 113 (wcells i l.length sc).toArray) : Wr i w1 l M ∧ Fw i.B i.S w w1 := by
  have hne := h.ne
  have hsz := h.size
  obtain ⟨⟨sc0, hsc0, hbk⟩, hB, hm, h1, h2, h3⟩ := h
  obtain ⟨cs, hc⟩ := IsBuffer.blk hB
  obtain ⟨es, cl, he⟩ := hm.obj
  refine ⟨⟨⟨sc, hsc, hb⟩, IsBuffer.keep hB (f.block _ hc.lt (by simp [hne.1.symm])) (fun g c fz hg => f.block g (Lib.lt_of_heap hg) ?_), hm.keep (f.block _ (Lib.lt_of_heap he) (by simp [hne.2.1.symm])), h1, h2, h3⟩, Fw.of_fr f hsz (by simp [WId.S, h1])⟩
  simp only [List.mem_singleton]
  rintro rfl
  unfold Blk at hbk
  rw [hbk] at hg; injection hg with hg; injection hg with _ hg _; cases hg
/-- Behind a store into the table. -/
theorem Wr.tabbed {i : WId} {w w1 : World} {l : By} {M M' : Tab} (h : Wr i w l M) (f : Fr [i.mb] w w1) (hM : MapIs w1 i.mb M') : Wr i w1 l M' ∧ Fw i.B i.S w w1 := by
  have hne := h.ne
  have hsz := h.size
  obtain ⟨⟨sc0, hsc0, hbk⟩, hB, hm, h1, h2, h3⟩ := h
  obtain ⟨cs, hc⟩ := IsBuffer.blk hB
  obtain ⟨es, cl, he⟩ := hm.obj
  refine ⟨⟨⟨sc0, hsc0, f.blk (by simp [hne.2.1]) hbk⟩, IsBuffer.keep hB (f.block _ hc.lt (by simp [hne.2.2])) (fun g c fz hg => f.block g (Lib.lt_of_heap hg) ?_), hM, h1, h2, h3⟩, Fw.of_fr f hsz (by simp [WId.S, h2])⟩
  simp only [List.mem_singleton]
  rintro rfl
  rw [he] at hg; cases hg
theorem str_len (s : ByteArray) : s.data.toList.length = s.size := Array.length_toList

/-- What a method of the writer leaves. -/
def WPost (i : WId) (w : World) (l' : By) (M' : Tab) (e : Ending) (w' : World) : Prop := e = .returned (.tuple #[]) ∧ Wr i w' l' M' ∧ Fw i.B i.S w w'

/-- Behind a write into the buffer: the count is raised. -/
theorem Wr.wrote {i : WId} {w w1 : World} {l s : By} {M : Tab} (h : Wr i w l M) (hB : Lib.IsBuffer 69 5 i.B i.bb (Lib.byteCells l ++ Lib.byteCells s) w1) (hb : Below i.B w w1) (hk : Lib.OthersKept 5 (some i.bb) w w1) (hn : l.length + s.length < 2147483648)
    (n : Int) (e : n = (l.length + s.length : Nat)) : Wr i (w1.setCell ⟨i.wb, 2, none⟩ (.int .u32 n)) (l ++ s) M ∧ Fw i.B i.S w (w1.setCell ⟨i.wb, 2, none⟩ (.int .u32 n)) := by
  subst e
  have hne := h.ne
  obtain ⟨⟨sc, hsc, hbk⟩, hB0, hm, h1, h2, h3⟩ := h
  have f1 : Fw i.B i.S w w1 := Fw.of_kept hb hk (by simp [WId.S])
  have hbk1 : Blk w1 i.wb 113 (wcells i l.length sc).toArray := hk i.wb _ hbk (by simp [hne.1]) (by intro c fz; simp)
  have hm1 : MapIs w1 i.mb M := by
    obtain ⟨es, cl, he⟩ := hm.obj
    exact hm.keep ((hk i.mb _ he (by simp [Ne.symm hne.2.2]) (by intro c fz; simp)).trans he.symm)
  refine ⟨⟨⟨sc, hsc, ?_⟩, ?_, ?_, h1, h2, by simpa using hn⟩, f1.set h1 (.inl (by simp [WId.S])) _⟩
  · have := Blk.put (p := [.pointer (some ⟨i.bb, 0, none⟩), .map (some i.mb)]) (q := Lib.byteCells sc) hbk1 2 rfl (.int .u32 ((l.length + s.length : Nat) : Int))
    simpa [wcells] using this
  · rw [bc_app]
    refine IsBuffer.keep hB (Below.heap_setCell _ _ _ _ hne.1.symm) (fun g c fz hg => Below.heap_setCell _ _ _ _ ?_)
    rintro rfl
    unfold Blk at hbk1
    rw [hbk1] at hg; injection hg with hg; injection hg with _ hg _; cases hg
  · exact hm1.keep (Below.heap_setCell _ _ _ _ hne.2.1.symm)

end Go.Proofs.YtnhafphgkipldaaGreatDoor
