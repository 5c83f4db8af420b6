/- The record writers, told over what a walk that writes blocks carries. Conditions: the bytes written stay below 2^31. -/
import Derived.Test.YtnhafphgkipldaaGreatDoorBi
import Derived.Lib.AtoiErrMem
namespace Go.Proofs.YtnhafphgkipldaaGreatDoor
open Go Go.RowKit

theorem flat_le {α : Type} (f : α → By) (c : Nat) (l : List α) (h : ∀ x ∈ l, (f x).length ≤ c) : (l.flatMap f).length ≤ c * l.length := by
  induction l with
  | nil => simp
  | cons a t ih =>
    have h1 := h a (by simp)
    have h2 := ih (fun x hx => h x (by simp [hx]))
    simp only [List.flatMap_cons, List.length_append, List.length_cons, Nat.mul_add, Nat.mul_one]
    omega
theorem def_parts {w : World} {x : Def} {cs : List Value} (h : DefR w x cs) : ∃ vr va, cs[7]? = some vr ∧ cs[8]? = some va ∧ cs[9]? = some (.string x.data) ∧ x.sy.ok ∧ Sl 6 RelR w vr x.rels ∧ Sl 3 AuxR w va x.auxs := by
  obtain ⟨ho, vr, va, rfl, h1, h2⟩ := h
  exact ⟨vr, va, rfl, rfl, rfl, ho, h1, h2⟩
theorem def_sy {w : World} {x : Def} {cs : List Value} (h : DefR w x cs) : ∃ t, cs = .string x.name :: x.sy.cells ++ t := by
  obtain ⟨ho, vr, va, rfl, h1, h2⟩ := h
  exact ⟨_, rfl⟩

theorem mid_succ (f : Def → By) (pre ls : List Def) (j : Nat) (x : Def) (hx : ls[j]? = some x) : (pre ++ ls.take (j + 1)).flatMap f = (pre ++ ls.take j).flatMap f ++ f x := by
  rw [List.flatMap_append, flatMap_succ f ls j x hx, List.flatMap_append, List.append_assoc]
section
variable {i : WId} {M : Tab} {ob : Nat} {w1 x : World} {os : List Int} {l : By}
theorem offset_q (h : BI i M ob w1 os l x) (n : Int) (hn : (l.length : Int) = n) : Calls Tryz.prog 50 #[.pointer (some ⟨i.wb, 0, none⟩)] x fun e x' => e = .returned (.int .u32 n) ∧ x' = x :=
  (offset_any i x l M h.1).mono fun _ _ ⟨a, b⟩ => ⟨by rw [a, hn], b.symm⟩
/-- The offset of block m is stored. -/
theorem BI.stored {l0 : By} {bs : List By} {m : Nat} {n : Int} (h : BI i M ob w1 (offs l0.length bs m) (l0 ++ (bs.take m).flatten) x) (hn : ((l0 ++ (bs.take m).flatten).length : Int) = n) : BI i M ob w1 (offs l0.length bs (m + 1)) (l0 ++ (bs.take m).flatten) (x.setCell ⟨ob, m, none⟩ (.int .u32 n)) := by
  subst hn
  have := h.set m ((l0 ++ (bs.take m).flatten).length : Int)
  rw [show (offs l0.length bs m).set m ((l0 ++ (bs.take m).flatten).length : Int) = offs l0.length bs (m + 1) from by rw [List.length_append]; exact offs_set _ _ _] at this
  exact this
theorem reloc_BI (h : BI i M ob w1 os l x) (r : Rel) (cs : List Value) (hr : RelR r cs) : Calls Tryz.prog 115 #[.agg cs.toArray] x fun e x' => ∃ g, e = .returned (.pointer (some ⟨g, 0, none⟩)) ∧ BI i M ob w1 os l x' ∧ Blk x' g 155 (Lib.byteCells r.enc).toArray := by
  obtain ⟨h1, rfl⟩ := hr
  exact (reloc_any r x h1).mono fun e x' ⟨g, e1, _, h2, h3⟩ => ⟨g, e1, h.fr0 h3, h2⟩
theorem relW_BI (h : BI i M ob w1 os l x) (r : Rel) (g : Nat) (hb : Blk x g 155 (Lib.byteCells r.enc).toArray) (hn : l.length ≤ 2000000000) : Calls Tryz.prog 116 #[.pointer (some ⟨g, 0, none⟩), .pointer (some ⟨i.wb, 0, none⟩)] x fun e x' => e = .returned (.tuple #[]) ∧ BI i M ob w1 os (l ++ r.enc) x' :=
  (relWrite_any i l r.enc M g x h.1 (rel_len r) (by omega) hb).mono fun _ _ k => ⟨k.1, h.post k⟩
theorem aux_BI (h : BI i M ob w1 os l x) (r : Aux) (cs : List Value) (hr : AuxR r cs) : Calls Tryz.prog 117 #[.agg cs.toArray] x fun e x' => ∃ g, e = .returned (.pointer (some ⟨g, 0, none⟩)) ∧ BI i M ob w1 os l x' ∧ Blk x' g 163 (Lib.byteCells r.enc).toArray := by
  obtain ⟨h1, rfl⟩ := hr
  exact (aux_any r x h1).mono fun e x' ⟨g, e1, _, h2, h3⟩ => ⟨g, e1, h.fr0 h3, h2⟩
theorem auxW_BI (h : BI i M ob w1 os l x) (r : Aux) (g : Nat) (hb : Blk x g 163 (Lib.byteCells r.enc).toArray) (hn : l.length ≤ 2000000000) : Calls Tryz.prog 118 #[.pointer (some ⟨g, 0, none⟩), .pointer (some ⟨i.wb, 0, none⟩)] x fun e x' => e = .returned (.tuple #[]) ∧ BI i M ob w1 os (l ++ r.enc) x' :=
  (auxWrite_any i l r.enc M g x h.1 (aux_len r) (by omega) hb).mono fun _ _ k => ⟨k.1, h.post k⟩
theorem flg_BI (h : BI i M ob w1 os l x) (r : Flg) (cs : List Value) (hr : FlgR r cs) : Calls Tryz.prog 54 #[.agg cs.toArray] x fun e x' => ∃ g, e = .returned (.pointer (some ⟨g, 0, none⟩)) ∧ BI i M ob w1 os l x' ∧ Blk x' g 189 (Lib.byteCells r.enc).toArray := by
  obtain ⟨h1, rfl⟩ := hr
  exact (flags_any r x h1).mono fun e x' ⟨g, e1, _, h2, h3⟩ => ⟨g, e1, h.fr0 h3, h2⟩
theorem flgW_BI (h : BI i M ob w1 os l x) (r : Flg) (g : Nat) (hb : Blk x g 189 (Lib.byteCells r.enc).toArray) (hn : l.length ≤ 2000000000) : Calls Tryz.prog 55 #[.pointer (some ⟨g, 0, none⟩), .pointer (some ⟨i.wb, 0, none⟩)] x fun e x' => e = .returned (.tuple #[]) ∧ BI i M ob w1 os (l ++ r.enc) x' :=
  (flgWrite_any i l r.enc M g x h.1 (flg_len r) (by omega) hb).mono fun _ _ k => ⟨k.1, h.post k⟩
/-- The data's bytes: the conversion, then the writing. -/
theorem conv_BI (h : BI i M ob w1 os l x) (s : ByteArray) : BI i M ob w1 os l (Lib.bytesWorld x 5 s) := h.fr0 (Fr.of_below (Lib.bytesWorld_below x 5 s))
theorem dataW_BI (s : ByteArray) (x0 : World) (c : Nat) (h : BI i M ob w1 os l (Lib.bytesWorld x0 5 s)) (hs : s.size ≤ 1000000) (hn : l.length ≤ 2000000000) (hi : i.bb < x0.heap.size) : Calls Tryz.prog 46 #[.pointer (some ⟨i.wb, 0, none⟩), .slice (some ⟨x0.heap.size, 0, none⟩) s.size c] (Lib.bytesWorld x0 5 s) fun e x' => e = .returned (.tuple #[]) ∧ BI i M ob w1 os (l ++ s.data.toList) x' := by
  refine (bytes_any i _ l s.data.toList M ⟨x0.heap.size, 0, none⟩ s.size c h.1 (by omega) (str_len s) (by simp only; omega) ?_).mono fun _ _ k => ⟨k.1, h.post k⟩
  intro j v hj
  have hlt : j < s.size := by
    rw [bc_get] at hj
    rcases Nat.lt_or_ge j s.data.toList.length with h1 | h1
    · rwa [str_len] at h1
    · rw [List.getElem?_eq_none h1] at hj; cases hj
  have := Lib.bytesWorld_cell x0 5 s j hlt
  rw [Lib.addr_add, Nat.zero_add, this]
  rw [bc_get] at hj
  have e : s.data.toList[j]? = some (s.data.toList.getD j 0) := by
    rw [List.getD_eq_getElem?_getD, List.getElem?_eq_getElem (by rw [str_len]; exact hlt)]; simp
  rw [e] at hj
  simpa using hj
theorem bb_lt (h : BI i M ob w1 os l x) : i.bb < x.heap.size := by
  obtain ⟨⟨_, hB, _⟩, _⟩ := h
  obtain ⟨cs, hc⟩ := IsBuffer.blk hB
  exact hc.lt
end

end Go.Proofs.YtnhafphgkipldaaGreatDoor
