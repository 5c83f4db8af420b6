/- The bytes of a whole object file, and what is known of their strings, lengths and offsets. Plain; no walk. Conditions: the file is within the bounds of the statement. -/
import Derived.Test.YtnhafphgkipldaaGreatDoorBlk
import Derived.Test.YtnhafphgkipldaaGreatDoorHw
namespace Go.Proofs.YtnhafphgkipldaaGreatDoor
open Go Go.RowKit

/-! ### the table of strings -/
/-- The bytes l hold s at o. -/
def Has (l : By) (o : Int) (s : By) : Prop := ∃ p r, l = p ++ s ++ r ∧ o = p.length
theorem Has.app {l : By} {o : Int} {s : By} (h : Has l o s) (t : By) : Has (l ++ t) o s := by
  obtain ⟨p, r, rfl, rfl⟩ := h
  exact ⟨p, r ++ t, by simp, rfl⟩
def TabOk (st : By × Tab) : Prop := ∀ s o, tlook st.2 s = some o → Has st.1 o s
theorem addS_keep (st : By × Tab) (s t : By) (o : Int) (h : tlook st.2 t = some o) : tlook (addS st s).2 t = some o := by
  obtain ⟨l, M⟩ := st
  cases hs : tlook M s with
  | some o' => rw [addS_hit hs]; exact h
  | none =>
    rw [addS_miss hs, tlook_cons]
    by_cases e : s = t
    · subst e; simp only at h; rw [hs] at h; cases h
    · simp only [e, if_false]; exact h
theorem addS_ok (st : By × Tab) (s : By) (h : TabOk st) : TabOk (addS st s) := by
  obtain ⟨l, M⟩ := st
  cases hs : tlook M s with
  | some o' => rw [addS_hit hs]; exact h
  | none =>
    rw [addS_miss hs]
    intro t o ht
    rw [tlook_cons] at ht
    by_cases e : s = t
    · subst e
      simp only [if_true] at ht
      cases ht
      exact ⟨l, [], by simp, rfl⟩
    · simp only [e, if_false] at ht
      exact (h t o ht).app s
theorem addS_has (st : By × Tab) (s : By) : ∃ o, tlook (addS st s).2 s = some o := by
  obtain ⟨l, M⟩ := st
  cases hs : tlook M s with
  | some o' => exact ⟨o', by rw [addS_hit hs]; exact hs⟩
  | none => exact ⟨l.length, by rw [addS_miss hs, tlook_cons]; simp⟩
theorem addAll_keep (ss : List ByteArray) (st : By × Tab) (t : By) (o : Int) (h : tlook st.2 t = some o) : tlook (addAll st ss).2 t = some o := by
  induction ss generalizing st with
  | nil => exact h
  | cons s r ih => exact ih _ (addS_keep st _ t o h)
theorem addAll_ok (ss : List ByteArray) (st : By × Tab) (h : TabOk st) : TabOk (addAll st ss) := by
  induction ss generalizing st with
  | nil => exact h
  | cons s r ih => exact ih _ (addS_ok st _ h)
theorem addAll_has (ss : List ByteArray) (st : By × Tab) (s : ByteArray) (hs : s ∈ ss) : ∃ o, tlook (addAll st ss).2 s.data.toList = some o := by
  induction ss generalizing st with
  | nil => cases hs
  | cons t r ih =>
    rcases List.mem_cons.1 hs with rfl | h1
    · obtain ⟨o, ho⟩ := addS_has st s.data.toList
      exact ⟨o, addAll_keep r _ _ _ ho⟩
    · exact ih _ h1
/-- What stands ahead only shifts. -/
theorem addS_pre (h h' x : By) (M : Tab) (s : By) (hl : h.length = h'.length) : ∃ y M', addS (h ++ x, M) s = (h ++ y, M') ∧ addS (h' ++ x, M) s = (h' ++ y, M') := by
  cases hs : tlook M s with
  | some o' => exact ⟨x, M, by rw [addS_hit hs], by rw [addS_hit hs]⟩
  | none => exact ⟨x ++ s, (s, ((h ++ x).length : Int)) :: M, by rw [addS_miss hs]; simp, by rw [addS_miss hs]; simp [hl]⟩
theorem addAll_pre (ss : List ByteArray) (h h' x : By) (M : Tab) (hl : h.length = h'.length) : ∃ y M', addAll (h ++ x, M) ss = (h ++ y, M') ∧ addAll (h' ++ x, M) ss = (h' ++ y, M') := by
  induction ss generalizing x M with
  | nil => exact ⟨x, M, rfl, rfl⟩
  | cons s r ih =>
    obtain ⟨y, M', e1, e2⟩ := addS_pre h h' x M s.data.toList hl
    obtain ⟨z, M2, e3, e4⟩ := ih y M'
    refine ⟨z, M2, ?_, ?_⟩
    · show addAll (addS (h ++ x, M) s.data.toList) r = _
      rw [e1]; exact e3
    · show addAll (addS (h' ++ x, M) s.data.toList) r = _
      rw [e2]; exact e4

/-! ### the bytes of a file -/
def magic : ByteArray := ⟨#[0, 103, 111, 49, 50, 48, 108, 100]⟩
def headB (F : Fil) (os : List Int) : By := hbytes magic F.fp F.flags os
theorem flatMap_le4 (l : List Int) : (l.flatMap le4).length = 4 * l.length := by
  induction l with
  | nil => rfl
  | cons a t ih => simp only [List.flatMap_cons, List.length_append, le4_len, ih, List.length_cons]; omega
theorem headB_len (F : Fil) (os : List Int) (h1 : F.fp.length = 8) (h2 : os.length = 19) : (headB F os).length = 96 := by
  have : magic.data.toList.length = 8 := rfl
  simp only [headB, hbytes, List.length_append, le4_len, flatMap_le4, h1, h2, this]
def tabF (F : Fil) : Tab := (addAll (headB F zero19, []) (strs F)).2
def strB (F : Fil) : By := (addAll (headB F zero19, []) (strs F)).1.drop (headB F zero19).length
def bsF (F : Fil) : List By := blks F (tabF F)
def osF (F : Fil) : List Int := offs (96 + (strB F).length) (bsF F) 19
/-- The bytes of the file. -/
def encF (F : Fil) : By := headB F (osF F) ++ strB F ++ (bsF F).flatten
theorem osF_len (F : Fil) : (osF F).length = 19 := offs_len _ _ _
theorem addAll_headB (F : Fil) (os : List Int) (h2 : os.length = 19) : addAll (headB F os, []) (strs F) = (headB F os ++ strB F, tabF F) := by
  have hl : (headB F zero19).length = (headB F os).length := by
    simp only [headB, hbytes, List.length_append, le4_len, flatMap_le4, h2, show zero19.length = 19 from rfl]
  obtain ⟨y, M', e1, e2⟩ := addAll_pre (strs F) (headB F zero19) (headB F os) [] [] hl
  rw [List.append_nil] at e1 e2
  have e3 : strB F = y := by unfold strB; rw [e1]; simp
  have e4 : tabF F = M' := by unfold tabF; rw [e1]
  rw [e2, e3, e4]

theorem tabF_has (F : Fil) (s : ByteArray) (hs : s ∈ strs F) : ∃ o, tlook (tabF F) s.data.toList = some o := addAll_has _ _ s hs
theorem tabF_ok (F : Fil) (os : List Int) (h2 : os.length = 19) (s : By) (o : Int) (h : tlook (tabF F) s = some o) : Has (headB F os ++ strB F) o s := by
  have h1 := addAll_ok (strs F) (headB F os, []) (by intro s o h; cases h)
  rw [addAll_headB F os h2] at h1
  exact h1 s o h
theorem flat60 {α : Type} (f : α → By) (c : Nat) (l : List α) (n : l.length ≤ 60) (h : ∀ x ∈ l, (f x).length ≤ c) : (l.flatMap f).length ≤ c * 60 :=
  Nat.le_trans (flat_le f c l h) (Nat.mul_le_mul_left _ n)
section
variable {F : Fil} (hS : Small F)
include hS
theorem strs_small : ∀ s ∈ strs F, s.size ≤ 100 := by
  intro s hs
  simp only [strs, List.mem_append, List.mem_cons, List.mem_map] at hs
  rcases hs with (((((rfl | ⟨x, hx, rfl⟩) | h) | h) | ⟨x, hx, rfl⟩) | ⟨x, hx, rfl⟩) | ⟨x, hx, rfl⟩
  · decide
  · exact hS.imps x hx
  · exact hS.pkgs s h
  · exact hS.files s h
  · exact (hS.defs x hx).1
  · exact hS.refs x hx
  · exact hS.names x hx
theorem strs_len : (strs F).length ≤ 361 := by
  have h1 := hS.nImps; have h2 := hS.nPkgs; have h3 := hS.nFiles; have h4 := hS.nDefs; have h5 := hS.nRefs; have h6 := hS.nNames
  simp only [strs, defs, List.length_append, List.length_cons, List.length_map] at *
  omega
theorem strB_len (h1 : F.fp.length = 8) : (strB F).length ≤ 36196 := by
  have h := addAll_len (headB F zero19, []) (strs F) (strs_small hS)
  have h2 := strs_len hS
  rw [addAll_headB F zero19 rfl] at h
  simp only [List.length_append, headB_len F zero19 h1 rfl] at h
  omega
theorem tabF_u32 (h1 : F.fp.length = 8) (s : ByteArray) (hs : s ∈ strs F) : ∃ o, u32ok o ∧ tlook (tabF F) s.data.toList = some o := by
  obtain ⟨o, ho⟩ := tabF_has F s hs
  obtain ⟨p, r, e, e2⟩ := tabF_ok F zero19 rfl _ o ho
  refine ⟨o, ?_, ho⟩
  have h2 := strB_len hS h1
  have h3 := congrArg List.length e
  simp only [List.length_append, headB_len F zero19 h1 rfl] at h3
  unfold u32ok
  omega
theorem bsF_len (hok : ∀ y ∈ F.imports, y.ok) (hhl : ∀ y ∈ F.hashes, y.length = 16) : (bsF F).flatten.length ≤ 200000 := by
  have n1 := hS.nImps; have n2 := hS.nPkgs; have n3 := hS.nFiles; have n4 : (defs F).length ≤ 60 := hS.nDefs; have n5 := hS.nRefs; have n6 := hS.nNames; have n7 := hS.nFlags
  have n8 := hS.nDefs
  simp only [List.length_append] at n8
  have m1 : F.own.length ≤ 60 := by clear n1 n2 n3 n4 n5 n6 n7; omega
  have m2 : F.short.length ≤ 60 := by clear n1 n2 n3 n4 n5 n6 n7; omega
  have m3 : F.hashed.length ≤ 60 := by clear n1 n2 n3 n4 n5 n6 n7; omega
  have m4 : F.other.length ≤ 60 := by clear n1 n2 n3 n4 n5 n6 n7; omega
  have m5 : F.hashes64.length ≤ 60 := by rw [hS.h64]; exact m2
  have m6 : F.hashes.length ≤ 60 := by rw [hS.h128]; exact m3
  have a0 := flat60 (Imp.enc (tabF F)) 16 F.imports n1 (fun y hy => by rw [imp_len _ y (hok y hy)]; exact Nat.le_refl _)
  have a1 := flat60 (sref (tabF F)) 8 F.packages n2 (fun y hy => by rw [sref_len]; exact Nat.le_refl _)
  have a2 := flat60 (sref (tabF F)) 8 F.files n3 (fun y hy => by rw [sref_len]; exact Nat.le_refl _)
  have a3 := flat60 (fun d : Def => d.rfd.enc (tabF F)) 21 F.own m1 (fun y hy => by rw [rfd_len]; exact Nat.le_refl _)
  have a4 := flat60 (fun d : Def => d.rfd.enc (tabF F)) 21 F.short m2 (fun y hy => by rw [rfd_len]; exact Nat.le_refl _)
  have a5 := flat60 (fun d : Def => d.rfd.enc (tabF F)) 21 F.hashed m3 (fun y hy => by rw [rfd_len]; exact Nat.le_refl _)
  have a6 := flat60 (fun d : Def => d.rfd.enc (tabF F)) 21 F.other m4 (fun y hy => by rw [rfd_len]; exact Nat.le_refl _)
  have a7 := flat60 (Rfd.enc (tabF F)) 21 F.refs n5 (fun y hy => by rw [rfd_len]; exact Nat.le_refl _)
  have a8 := flat60 (Flg.enc) 10 F.refFlags n7 (fun y hy => by rw [flg_len]; exact Nat.le_refl _)
  have a9 := flat60 (le8) 8 F.hashes64 m5 (fun y hy => by rw [le8_len]; exact Nat.le_refl _)
  have a10 := flat60 ((id : By → By)) 16 F.hashes m6 (fun y hy => by rw [id_eq, hhl y hy]; exact Nat.le_refl _)
  have a11 : (idxSt (cnt 0) (defs F)).1.length ≤ 4 + 4 * 60 := by rw [(idxSt_bound (cnt 0) 200 (defs F) (fun d hd => cnt_le hS 0 d hd)).2]; exact Nat.add_le_add_left (Nat.mul_le_mul_left _ n4) _
  have a12 : (idxSt (cnt 1) (defs F)).1.length ≤ 4 + 4 * 60 := by rw [(idxSt_bound (cnt 1) 200 (defs F) (fun d hd => cnt_le hS 1 d hd)).2]; exact Nat.add_le_add_left (Nat.mul_le_mul_left _ n4) _
  have a13 : (idxSt (cnt 2) (defs F)).1.length ≤ 4 + 4 * 60 := by rw [(idxSt_bound (cnt 2) 200 (defs F) (fun d hd => cnt_le hS 2 d hd)).2]; exact Nat.add_le_add_left (Nat.mul_le_mul_left _ n4) _
  have a14 := flat60 (fun d : Def => d.rels.flatMap Rel.enc) 460 (defs F) n4 (fun d hd => Nat.le_trans (flat_le Rel.enc 23 d.rels (fun r _ => by rw [rel_len]; exact Nat.le_refl _)) (Nat.mul_le_mul_left 23 (hS.defs d hd).2.2.1))
  have a15 := flat60 (fun d : Def => d.auxs.flatMap Aux.enc) 180 (defs F) n4 (fun d hd => Nat.le_trans (flat_le Aux.enc 9 d.auxs (fun r _ => by rw [aux_len]; exact Nat.le_refl _)) (Nat.mul_le_mul_left 9 (hS.defs d hd).2.2.2))
  have a16 := flat60 (fun d : Def => d.data.data.toList) 200 (defs F) n4 (fun d hd => by rw [str_len]; exact (hS.defs d hd).2.1)
  have a17 := flat60 (Nam.enc (tabF F)) 16 F.refNames n6 (fun y hy => by rw [nam_len]; exact Nat.le_refl _)
  clear n1 n2 n3 n4 n5 n6 n7 n8 m1 m2 m3 m4 m5 m6
  simp only [bsF, blks, List.flatten_cons, List.flatten_nil, List.length_append, List.length_nil]
  generalize (F.imports.flatMap (Imp.enc (tabF F))).length = x0 at a0 ⊢
  generalize (F.packages.flatMap (sref (tabF F))).length = x1 at a1 ⊢
  generalize (F.files.flatMap (sref (tabF F))).length = x2 at a2 ⊢
  generalize (F.own.flatMap (fun d : Def => d.rfd.enc (tabF F))).length = x3 at a3 ⊢
  generalize (F.short.flatMap (fun d : Def => d.rfd.enc (tabF F))).length = x4 at a4 ⊢
  generalize (F.hashed.flatMap (fun d : Def => d.rfd.enc (tabF F))).length = x5 at a5 ⊢
  generalize (F.other.flatMap (fun d : Def => d.rfd.enc (tabF F))).length = x6 at a6 ⊢
  generalize (F.refs.flatMap (Rfd.enc (tabF F))).length = x7 at a7 ⊢
  generalize (F.refFlags.flatMap (Flg.enc)).length = x8 at a8 ⊢
  generalize (F.hashes64.flatMap (le8)).length = x9 at a9 ⊢
  generalize (F.hashes.flatMap ((id : By → By))).length = x10 at a10 ⊢
  generalize (idxSt (cnt 0) (defs F)).1.length = x11 at a11 ⊢
  generalize (idxSt (cnt 1) (defs F)).1.length = x12 at a12 ⊢
  generalize (idxSt (cnt 2) (defs F)).1.length = x13 at a13 ⊢
  generalize ((defs F).flatMap (fun d : Def => d.rels.flatMap Rel.enc)).length = x14 at a14 ⊢
  generalize ((defs F).flatMap (fun d : Def => d.auxs.flatMap Aux.enc)).length = x15 at a15 ⊢
  generalize ((defs F).flatMap (fun d : Def => d.data.data.toList)).length = x16 at a16 ⊢
  generalize (F.refNames.flatMap (Nam.enc (tabF F))).length = x17 at a17 ⊢
  exact Nat.le_trans (Nat.add_le_add a0 (Nat.add_le_add a1 (Nat.add_le_add a2 (Nat.add_le_add a3 (Nat.add_le_add a4 (Nat.add_le_add a5 (Nat.add_le_add a6 (Nat.add_le_add a7 (Nat.add_le_add a8 (Nat.add_le_add a9 (Nat.add_le_add a10 (Nat.add_le_add a11 (Nat.add_le_add a12 (Nat.add_le_add a13 (Nat.add_le_add a14 (Nat.add_le_add a15 (Nat.add_le_add a16 (Nat.add_le_add a17 (Nat.le_refl 0))))))))))))))))))) (by decide)
end
theorem osF_ok (F : Fil) (h : 96 + (strB F).length + (bsF F).flatten.length < 4294967296) : ∀ o ∈ osF F, u32ok o := by
  intro o ho
  simp only [osF, offs, List.mem_map] at ho
  obtain ⟨j, _, rfl⟩ := ho
  have := take_flatten_le (bsF F) j
  unfold u32ok
  split <;> omega

end Go.Proofs.YtnhafphgkipldaaGreatDoor
