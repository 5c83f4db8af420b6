/- The bytes of a file hold what the readers read, where they read it. Plain; no walk. Conditions: the file is within the bounds of the statement. -/
import Derived.Test.YtnhafphgkipldaaGreatDoorEf
namespace Go.Proofs.YtnhafphgkipldaaGreatDoor
open Go Go.RowKit

/-! ### at a place -/
theorem At.trans {l s t : By} {o p : Nat} (h : At l o s) (k : At s p t) : At l (o + p) t := by
  obtain ⟨a, b, rfl, rfl⟩ := h
  obtain ⟨c, d, rfl, rfl⟩ := k
  exact ⟨a ++ c, d ++ b, by simp, by simp⟩
theorem At.self (s : By) : At s 0 s := ⟨[], [], by simp, rfl⟩
theorem At.mid (p s r : By) : At (p ++ s ++ r) p.length s := ⟨p, r, rfl, rfl⟩
theorem fm_len {α : Type} (f : α → By) (c : Nat) : ∀ (l : List α), (∀ x ∈ l, (f x).length = c) → (l.flatMap f).length = l.length * c
  | [], _ => by simp
  | x :: r, h => by rw [List.flatMap_cons, List.length_append, h x (by simp), fm_len f c r (fun y hy => h y (by simp [hy])), List.length_cons, Nat.add_mul]; omega
theorem At.elem {α : Type} {f : α → By} {c k : Nat} {l : List α} {x : α} (hf : ∀ y ∈ l, (f y).length = c) (hx : l[k]? = some x) : At (l.flatMap f) (k * c) (f x) := by
  rw [flatMap_mid f l k x hx]
  have hk : k < l.length := (List.getElem?_eq_some_iff.1 hx).1
  have e : ((l.take k).flatMap f).length = k * c := by rw [fm_len f c _ (fun y hy => hf y (List.mem_of_mem_take hy)), List.length_take, Nat.min_eq_left (by omega)]
  rw [← e]; exact At.mid _ _ _

/-! ### an index block -/
def psum (c : Def → Nat) (ds : List Def) (i : Nat) : Nat := ((ds.take i).map c).sum
theorem idx_fold (c : Def → Nat) : ∀ (ds : List Def) (l : By) (n : Nat),
    (∃ t, (ds.foldl (fun st d => (st.1 ++ le4 ((st.2 + c d : Nat) : Int), st.2 + c d)) (l ++ le4 (n : Int), n)).1 = l ++ le4 (n : Int) ++ t) ∧
    ∀ (i : Nat) (d : Def), ds[i]? = some d → At (ds.foldl (fun st d => (st.1 ++ le4 ((st.2 + c d : Nat) : Int), st.2 + c d)) (l ++ le4 (n : Int), n)).1 (l.length + i * 4) (le4 ((n + psum c ds i : Nat) : Int) ++ le4 ((n + psum c ds i + c d : Nat) : Int))
  | [], l, n => ⟨⟨[], by simp⟩, fun i d h => by simp at h⟩
  | d0 :: r, l, n => by
    obtain ⟨⟨t, ht⟩, h2⟩ := idx_fold c r (l ++ le4 (n : Int)) (n + c d0)
    refine ⟨⟨le4 ((n + c d0 : Nat) : Int) ++ t, ?_⟩, fun i d hd => ?_⟩
    · rw [List.foldl_cons, ht]; simp
    · cases i with
      | zero =>
        simp only [List.getElem?_cons_zero, Option.some.injEq] at hd
        subst hd
        rw [List.foldl_cons, ht]
        refine ⟨l, t, ?_, by simp⟩
        simp [psum]
      | succ i =>
        simp only [List.getElem?_cons_succ] at hd
        have h3 := h2 i d hd
        rw [List.foldl_cons]
        have e1 : n + psum c (d0 :: r) (i + 1) = n + c d0 + psum c r i := by simp [psum, Nat.add_assoc]
        have e2 : l.length + (i + 1) * 4 = (l ++ le4 (n : Int)).length + i * 4 := by rw [List.length_append, le4_len]; omega
        rw [e1, e2]; exact h3
theorem idx_at (c : Def → Nat) (ds : List Def) (i : Nat) (d : Def) (h : ds[i]? = some d) : At (idxSt c ds).1 (i * 4) (le4 ((psum c ds i : Nat) : Int) ++ le4 ((psum c ds i + c d : Nat) : Int)) := by
  have := (idx_fold c ds [] 0).2 i d h
  simpa [idxSt] using this
theorem psum_len {c : Def → Nat} {g : Def → By} {m : Nat} (hg : ∀ d, (g d).length = c d * m) (ds : List Def) (i : Nat) : ((ds.take i).flatMap g).length = psum c ds i * m := by
  unfold psum
  generalize ds.take i = t
  induction t with
  | nil => simp
  | cons a r ih => rw [List.flatMap_cons, List.length_append, hg, ih, List.map_cons, List.sum_cons, Nat.add_mul]
theorem sum_at {c : Def → Nat} {g : Def → By} {m : Nat} (hg : ∀ d, (g d).length = c d * m) {ds : List Def} {i : Nat} {d : Def} (h : ds[i]? = some d) : At (ds.flatMap g) (psum c ds i * m) (g d) := by
  rw [flatMap_mid g ds i d h, ← psum_len hg ds i]; exact At.mid _ _ _

/-! ### the blocks -/
def oF (F : Fil) (j : Nat) : Nat := 96 + (strB F).length + ((bsF F).take j).flatten.length
theorem bsF_18 (F : Fil) : (bsF F).length = 18 := rfl
theorem oF_succ (F : Fil) (j : Nat) (b : By) (h : (bsF F)[j]? = some b) : oF F (j + 1) = oF F j + b.length := by
  unfold oF; rw [flat_succ _ _ _ h, List.length_append]; omega
theorem oF_at (F : Fil) (j : Nat) (hj : j < 19) : (osF F)[j]? = some (oF F j : Int) := by
  unfold osF; rw [offs_get _ _ _ _ hj, if_pos hj]; rfl
theorem str_at {F : Fil} (s : ByteArray) (hs : s ∈ strs F) : ∃ p : Nat, strOff (tabF F) s = (p : Int) ∧ At (encF F) p s.data.toList := by
  obtain ⟨o, ho⟩ := tabF_has F s hs
  have h1 := (tabF_ok F (osF F) (osF_len F) _ o ho).app (bsF F).flatten
  obtain ⟨n, rfl, hn⟩ := At.of_has h1
  exact ⟨n, by unfold strOff; rw [ho]; rfl, hn⟩
/-- A string's reference, and the string. -/
theorem sref_at {F : Fil} (s : ByteArray) (hs : s ∈ strs F) : ∃ p : Nat, sref (tabF F) s = le4 s.size ++ le4 p ∧ At (encF F) p s.data.toList := by
  obtain ⟨p, h1, h2⟩ := str_at s hs
  exact ⟨p, by unfold sref; rw [h1], h2⟩
section
variable {F : Fil} (h8 : F.fp.length = 8)
include h8
theorem pre_len : (headB F (osF F) ++ strB F).length = 96 + (strB F).length := by rw [List.length_append, headB_len F _ h8 (osF_len F)]
theorem blk_at (j : Nat) (b : By) (h : (bsF F)[j]? = some b) : At (encF F) (oF F j) b := by
  have hk : j < (bsF F).length := (List.getElem?_eq_some_iff.1 h).1
  have e : (bsF F).flatten = ((bsF F).take j).flatten ++ b ++ ((bsF F).drop (j + 1)).flatten := by
    conv => lhs; rw [← List.take_append_drop (j + 1) (bsF F), List.flatten_append, flat_succ _ _ _ h]
  unfold encF
  rw [e]
  refine ⟨headB F (osF F) ++ strB F ++ ((bsF F).take j).flatten, ((bsF F).drop (j + 1)).flatten, by simp, ?_⟩
  rw [List.length_append, pre_len h8]; rfl
end

theorem ef_enc {F : Fil} {w : World} {v : Value} (hS : Small F) (hF : FilR w v F) : Ef F (encF F) (osF F) (oF F) := by
  obtain ⟨cs, v0, v1, v2, v3, v4, v5, v6, v7, v8, v9, v10, v11, _, hc, k⟩ := hF
  have h8 := hc.fpl
  have mem : ∀ {α : Type} {sz : Nat} {R : α → List Value → Prop} {u : Value} {l : List α}, Sl sz R w u l → ∀ y ∈ l, ∃ cs, R y cs := by
    intro α sz R u l hs y hy
    obtain ⟨_, _, _, _, _, _, E⟩ := hs.elim
    obtain ⟨j, hj⟩ := List.mem_iff_getElem?.1 hy
    obtain ⟨cs, hR, _⟩ := E j y hj
    exact ⟨cs, hR⟩
  have hok : ∀ y ∈ F.imports, y.ok := fun y hy => by obtain ⟨_, hR⟩ := mem k.s0 y hy; exact hR.1
  have hhl : ∀ y ∈ F.hashes, y.length = 16 := fun y hy => by obtain ⟨_, hR⟩ := mem k.s10 y hy; exact hR.1
  have h64 : ∀ y ∈ F.hashes64, u64ok y := fun y hy => by obtain ⟨_, hR⟩ := mem k.s9 y hy; exact hR.1
  have hrf : ∀ y ∈ F.refs, y.sy.ok := fun y hy => by obtain ⟨_, hR⟩ := mem k.s7 y hy; exact hR.1
  have hfl : ∀ y ∈ F.refFlags, y.ok := fun y hy => by obtain ⟨_, hR⟩ := mem k.s8 y hy; exact hR.1
  have hnm : ∀ y ∈ F.refNames, y.ok := fun y hy => by obtain ⟨_, hR⟩ := mem k.s11 y hy; exact hR.1
  have hds : ∀ d ∈ defs F, d.sy.ok ∧ (∀ r ∈ d.rels, r.ok) ∧ (∀ r ∈ d.auxs, r.ok) := by
    intro d hd
    have : ∃ cs, DefR w d cs := by
      simp only [defs, List.mem_append] at hd
      rcases hd with ((hd | hd) | hd) | hd
      · exact mem k.s3 d hd
      · exact mem k.s4 d hd
      · exact mem k.s5 d hd
      · exact mem k.s6 d hd
    obtain ⟨cs, ho, vr, va, _, s1, s2⟩ := this
    exact ⟨ho, fun r hr => by obtain ⟨_, hR⟩ := mem s1 r hr; exact hR.1, fun r hr => by obtain ⟨_, hR⟩ := mem s2 r hr; exact hR.1⟩
  have n1 := strB_len hS h8
  have n2 := bsF_len hS hok hhl
  have hlen : (encF F).length = 96 + (strB F).length + (bsF F).flatten.length := by unfold encF; rw [List.length_append, pre_len h8]
  have mstr : ∀ {s : ByteArray}, (s ∈ F.imports.map (·.pkg) ∨ s ∈ F.packages ∨ s ∈ F.files ∨ s ∈ (defs F).map (·.name) ∨ s ∈ F.refs.map (·.name) ∨ s ∈ F.refNames.map (·.name)) → s ∈ strs F := by
    intro s hs
    simp only [strs, List.mem_append, List.mem_cons]
    rcases hs with h | h | h | h | h | h <;> simp only [h, true_or, or_true]
  have lImp : ∀ y ∈ F.imports, (Imp.enc (tabF F) y).length = 16 := fun y hy => imp_len _ y (hok y hy)
  have hsym : At (encF F) (oF F 3) (((defs F).map Def.rfd ++ F.refs).flatMap (Rfd.enc (tabF F))) := by
    have b3 := blk_at h8 3 _ rfl
    have e : ((defs F).map Def.rfd ++ F.refs).flatMap (Rfd.enc (tabF F)) = F.own.flatMap (fun d => d.rfd.enc (tabF F)) ++ (F.short.flatMap (fun d => d.rfd.enc (tabF F)) ++ (F.hashed.flatMap (fun d => d.rfd.enc (tabF F)) ++ (F.other.flatMap (fun d => d.rfd.enc (tabF F)) ++ F.refs.flatMap (Rfd.enc (tabF F))))) := by
      simp [defs, List.flatMap_append, List.flatMap_map]
    rw [e]
    have e2 : (bsF F).flatten = ((bsF F).take 3).flatten ++ (F.own.flatMap (fun d => d.rfd.enc (tabF F)) ++ (F.short.flatMap (fun d => d.rfd.enc (tabF F)) ++ (F.hashed.flatMap (fun d => d.rfd.enc (tabF F)) ++ (F.other.flatMap (fun d => d.rfd.enc (tabF F)) ++ F.refs.flatMap (Rfd.enc (tabF F)))))) ++ ((bsF F).drop 8).flatten := by
      simp [bsF, blks]
    refine ⟨headB F (osF F) ++ strB F ++ ((bsF F).take 3).flatten, ((bsF F).drop 8).flatten, ?_, ?_⟩
    · unfold encF; rw [e2]; simp
    · rw [List.length_append, pre_len h8]; rfl
  exact {
    oat := oF_at F
    osl := osF_len F
    oso := osF_ok F (by omega)
    fpl := h8
    flo := k.flo
    head := ⟨strB F ++ (bsF F).flatten, by unfold encF headB; simp⟩
    len := by rw [hlen]; omega
    olen := fun j _ => by rw [hlen]; unfold oF; have := take_flatten_le (bsF F) j; omega
    small := hS
    imps := fun i s hs => by
      have hm := List.mem_of_getElem? hs
      refine ⟨hok s hm, ?_⟩
      obtain ⟨p, e, h2⟩ := sref_at s.pkg (mstr (.inl (List.mem_map.2 ⟨s, hm, rfl⟩)))
      have h1 := (blk_at h8 0 _ rfl).trans (At.elem lImp hs)
      refine ⟨p, ?_, h2⟩
      unfold Imp.enc at h1
      rwa [e] at h1
    pkgs := fun i s hs => by
      have hm := List.mem_of_getElem? hs
      obtain ⟨p, e, h2⟩ := sref_at s (mstr (.inr (.inl hm)))
      have h1 := (blk_at h8 1 _ rfl).trans (At.elem (fun y _ => sref_len _ y) hs)
      rw [e] at h1
      exact ⟨p, h1, h2⟩
    files := fun i s hs => by
      have hm := List.mem_of_getElem? hs
      obtain ⟨p, e, h2⟩ := sref_at s (mstr (.inr (.inr (.inl hm))))
      have h1 := (blk_at h8 2 _ rfl).trans (At.elem (fun y _ => sref_len _ y) hs)
      rw [e] at h1
      exact ⟨p, h1, h2⟩
    n0 := by rw [oF_succ F 0 _ rfl, fm_len _ 16 _ lImp]
    n1 := by rw [oF_succ F 1 _ rfl, fm_len _ 8 _ (fun y _ => sref_len _ y)]
    n2 := by rw [oF_succ F 2 _ rfl, fm_len _ 8 _ (fun y _ => sref_len _ y)]
    n3 := by rw [oF_succ F 3 _ rfl, fm_len _ 21 _ (fun y _ => rfd_len _ _)]
    n4 := by rw [oF_succ F 4 _ rfl, fm_len _ 21 _ (fun y _ => rfd_len _ _)]
    n5 := by rw [oF_succ F 5 _ rfl, fm_len _ 21 _ (fun y _ => rfd_len _ _)]
    n6 := by rw [oF_succ F 6 _ rfl, fm_len _ 21 _ (fun y _ => rfd_len _ _)]
    n7 := by rw [oF_succ F 7 _ rfl, fm_len _ 21 _ (fun y _ => rfd_len _ _)]
    n8 := by rw [oF_succ F 8 _ rfl, fm_len _ 10 _ (fun y _ => flg_len _)]
    n17 := by rw [oF_succ F 17 _ rfl, fm_len _ 16 _ (fun y _ => nam_len _ _)]
    syms := fun i d hd => by
      have hm := List.mem_of_getElem? hd
      have hnm' : d.name ∈ strs F := by
        rcases List.mem_append.1 hm with h | h
        · obtain ⟨x, hx, rfl⟩ := List.mem_map.1 h
          exact mstr (.inr (.inr (.inr (.inl (List.mem_map.2 ⟨x, hx, rfl⟩)))))
        · exact mstr (.inr (.inr (.inr (.inr (.inl (List.mem_map.2 ⟨d, h, rfl⟩))))))
      have hsy : d.sy.ok := by
        rcases List.mem_append.1 hm with h | h
        · obtain ⟨x, hx, rfl⟩ := List.mem_map.1 h
          exact (hds x hx).1
        · exact hrf d h
      obtain ⟨p, e, h2⟩ := sref_at d.name hnm'
      have h1 := hsym.trans (At.elem (fun y _ => rfd_len _ y) hd)
      unfold Rfd.enc at h1
      rw [e] at h1
      exact ⟨hsy, p, h1, h2⟩
    flags := fun i f hf => ⟨hfl f (List.mem_of_getElem? hf), (blk_at h8 8 _ rfl).trans (At.elem (fun y _ => flg_len y) hf)⟩
    h64 := fun i x hx => ⟨h64 x (List.mem_of_getElem? hx), (blk_at h8 9 _ rfl).trans (At.elem (fun y _ => le8_len y) hx)⟩
    h128 := fun i x hx => ⟨hhl x (List.mem_of_getElem? hx), (blk_at h8 10 _ rfl).trans (At.elem (f := id) (fun y hy => hhl y hy) hx)⟩
    rels := fun i d hd => ⟨(hds d (List.mem_of_getElem? hd)).2.1, psum (cnt 0) (defs F) i, (blk_at h8 11 _ rfl).trans (idx_at (cnt 0) (defs F) i d hd), (blk_at h8 14 _ rfl).trans (sum_at (c := cnt 0) (g := fun d => d.rels.flatMap Rel.enc) (fun d => fm_len _ 23 _ (fun r _ => rel_len r)) hd)⟩
    auxs := fun i d hd => ⟨(hds d (List.mem_of_getElem? hd)).2.2, psum (cnt 1) (defs F) i, (blk_at h8 12 _ rfl).trans (idx_at (cnt 1) (defs F) i d hd), (blk_at h8 15 _ rfl).trans (sum_at (c := cnt 1) (g := fun d => d.auxs.flatMap Aux.enc) (fun d => fm_len _ 9 _ (fun r _ => aux_len r)) hd)⟩
    data := fun i d hd => ⟨psum (cnt 2) (defs F) i, (blk_at h8 13 _ rfl).trans (idx_at (cnt 2) (defs F) i d hd), by
      have := (blk_at h8 16 _ rfl).trans (sum_at (c := cnt 2) (m := 1) (g := fun d => d.data.data.toList) (fun d => by rw [str_len, Nat.mul_one]; rfl) hd)
      rwa [Nat.mul_one] at this⟩
    names := fun i d hd => by
      have hm := List.mem_of_getElem? hd
      obtain ⟨p, e, h2⟩ := sref_at d.name (mstr (.inr (.inr (.inr (.inr (.inr (List.mem_map.2 ⟨d, hm, rfl⟩)))))))
      have h1 := (blk_at h8 17 _ rfl).trans (At.elem (fun y _ => nam_len _ y) hd)
      unfold Nam.enc at h1
      rw [e] at h1
      exact ⟨hnm d hm, p, by simpa using h1, h2⟩ }

end Go.Proofs.YtnhafphgkipldaaGreatDoor
