/- FileFiles, FilePkgs: lists of strings read back. Printed by gen_ff.py. Conditions: the bytes are those of a file. -/
import Derived.Test.YtnhafphgkipldaaGreatDoorEf
namespace Go.Proofs.YtnhafphgkipldaaGreatDoor
open Go Go.RowKit

theorem Rd.grown {l fp : By} {fl : Int} {os : List Int} {w w' : World} {r g c B n sz : Nat} {e : TypeId} {v : Value} {xs : List Value} (h : Rd l fp fl os w r g c) (hi : In l w' g c) (ho : w.ownsRow B e sz v n xs) (hg : w.grownBy w' v.ownBlock) (hT : (196 : Nat) ≠ e) : Rd l fp fl os w' r g c :=
  ⟨blk_grown h.blk ho hg hT, h.cap, hi.cs, h.fpl, h.osl⟩
theorem strs_sl {w : World} {B n : Nat} {v : Value} {l : List ByteArray} (h : w.ownsRow B 9 1 v n (l.map Value.string)) (hn : n = l.length) : Sl 1 StrR w v l := by
  refine own_sl (f := fun x => [Value.string x]) (sz := 1) (e := 9) (B := B) (n := n) ?_ hn (fun x _ => ⟨rfl, rfl⟩) (by decide)
  have : l.flatMap (fun x => [Value.string x]) = l.map Value.string := by clear h hn; induction l with | nil => rfl | cons a t ih => simp [ih]
  rw [this]; exact h

section
variable {F : Fil} {l : By} {os : List Int} {o : Nat → Nat} {w : World} {g c : Nat}

set_option maxHeartbeats 1600000 in
set_option maxRecDepth 100000 in
theorem fileFiles_any (E : Ef F l os o) (I : In l w g c) : Calls Tryz.prog 21 #[.slice (some ⟨g, 0, none⟩) l.length c] w fun e w' => ∃ v, e = .returned v ∧ w'.ownsRow w.heap.size 9 1 v F.files.length (F.files.map Value.string) ∧ Fr [] w w' := by
  have HE := Lib.hid E; have HI := Lib.hid I
  have hn := E.small.nFiles
  clear E I
  go_enter Tryz.func21, Tryz.ntmps21
  go_wp2_with fail
  refine (newReader_ef HE.out HI.out).mono ?_
  rintro e w2 ⟨r, rfl, hr, f2⟩
  have O0 := World.ownsRow_lit (base := w.heap.size) (size := 1) (e := 9) w2 #[] 0 f2.size (by decide) rfl
  have F0 : Fr [] w2 (w2.alloc (.cells #[] 9)) := (Fr.refl [] w2).alloc _
  have HR := Lib.hid (hr.fr F0); have HF2 := Lib.hid (f2.trans F0); have HO2 := Lib.hid O0
  clear hr f2 F0 O0
  go_wp2_with fail
  generalize w2.alloc (.cells #[] 9) = w3 at HR HF2 HO2 ⊢
  generalize w2.heap.size = b0 at HO2 ⊢
  have q := nFile_any HR.out (o 3) (o 2) F.files.length (HE.out.oat 3 (by decide)) (HE.out.oat 2 (by decide)) (by have := HE.out.n2; omega) (by have h1 := HE.out.olen 3 (by decide); have h2 := HE.out.len; omega)
  refine (q.mono fun _ _ h => toFr h).mono ?_
  clear q
  rintro e w4 ⟨rfl, f4⟩
  have HR4 := Lib.hid (HR.out.fr f4); have HF4 := Lib.hid (HF2.out.trans f4); have HO4 := Lib.hid (own_fr HO2.out f4)
  clear f4 HR HF2 HO2
  go_wp2_with fail
  skip
  go_loopw [11, 4] (fun c0 t y => ∃ k : Nat, k ≤ F.files.length ∧ c0 = .int .i64 k ∧ y.ownsRow w.heap.size 9 1 t k ((F.files.take k).map Value.string) ∧ Fr [] w y ∧ Rd l F.fp F.flags os y r g c) (fun c _ _ => F.files.length - (intOf c).toNat)
  case atStart => exact ⟨0, Nat.zero_le _, rfl, HO4.out, HF4.out, HR4.out⟩
  case round =>
    obtain ⟨k, hk, rfl, ho, hf, hr⟩ := hrel
    have HO := Lib.hid ho; have HF := Lib.hid hf; have HR := Lib.hid hr
    clear ho hf hr
    by_cases hlt : k < F.files.length
    · obtain ⟨x, hx⟩ : ∃ x, F.files[k]? = some x := ⟨_, List.getElem?_eq_getElem hlt⟩
      obtain ⟨p, hp1, hp2⟩ := HE.out.files k x hx
      have HX := Lib.hid hx; have HP1 := Lib.hid hp1; have HP2 := Lib.hid hp2
      clear hx hp1 hp2
      go_wp2_with fail
      refine (fileAt_any HR.out (o 2) k p x (HE.out.oat 2 (by decide)) HP1.out HP2.out (by have h2 := HE.out.len; omega)).mono ?_
      rintro e w5 ⟨rfl, f5⟩
      have HF5 := Lib.hid (HF.out.trans f5); have HO5 := Lib.hid (own_fr HO.out f5); have HR5 := Lib.hid (HR.out.fr f5)
      clear f5
      go_wp2_with ((with_reducible refine selD 18 ?_); go_must (refine wpList_one _ rfl 25 9 _ rfl _ [.string x] rfl (by rfl) _ _ 1 (by rfl) (by rfl) (by rfl) (by rfl) (by decide) (by decide) rfl ?_; refine Hid.out ?_))
      refine Lib.hid ?_
      have B6 := Blk.new w5 9 [Value.string x].toArray
      have f6 := (Fr.refl [] w5).alloc (.cells [Value.string x].toArray 9)
      have HF6 := Lib.hid (HF5.out.trans f6); have HO6 := Lib.hid (own_fr HO5.out f6); have HR6 := Lib.hid (HR5.out.fr f6); have HN := Lib.hid B6.all
      clear B6 f6
      generalize w5.alloc (.cells [Value.string x].toArray 9) = w6 at HF6 HO6 HR6 HN ⊢
      generalize w5.heap.size = nb at HN ⊢
      go_wp2_with ((with_reducible refine selD 19 ?_); go_must (refine wpList_push w _ rfl _ _ 25 rfl 9 _ _ 1 _ (by rfl) (by rfl) (by rfl) (by rfl) rfl (by rfl) (by decide) _ k _ rfl HO6.out HF6.out nb 1 1 [.string x] rfl rfl HN.out (by intro u hu; simp only [List.mem_singleton] at hu; rw [hu]; rfl) (by omega) (by omega) (by decide) ?_; intro v' w7 ho7 hf7 hg7; refine Hid.out ?_))
      refine Lib.hid ?_
      have HO7 := Lib.hid ho7; have HF7 := Lib.hid hf7
      have HR7 : Hid (Rd l F.fp F.flags os w7 r g c) := Lib.hid (HR6.out.grown (HI.out.fr HF7.out) HO6.out hg7 (by decide))
      clear ho7 hf7 hg7
      go_wp2
      go_roundw
      case rel => exact ⟨k + 1, by omega, by go_num, by
        have h1 := HO7.out
        rw [take_succ_map _ _ _ _ HX.out]
        exact h1, HF7.out, HR7.out⟩
      case measure => simp [intOf]; omega
    · have e : k = F.files.length := by omega
      subst e
      go_wp2
      go_ret
      have h1 := HO.out
      rw [List.take_length] at h1
      exact ⟨_, rfl, h1, HF.out⟩

set_option maxHeartbeats 1600000 in
set_option maxRecDepth 100000 in
theorem filePkgs_any (E : Ef F l os o) (I : In l w g c) : Calls Tryz.prog 23 #[.slice (some ⟨g, 0, none⟩) l.length c] w fun e w' => ∃ v v2, e = .returned (.tuple #[v, v2]) ∧ w'.ownsRow w.heap.size 9 1 v F.packages.length (F.packages.map Value.string) ∧ Fr [] w w' := by
  have HE := Lib.hid E; have HI := Lib.hid I
  have hn := E.small.nPkgs
  clear E I
  go_enter Tryz.func23, Tryz.ntmps23
  go_wp2_with fail
  refine (newReader_ef HE.out HI.out).mono ?_
  rintro e w2 ⟨r, rfl, hr, f2⟩
  have O0 := World.ownsRow_lit (base := w.heap.size) (size := 1) (e := 9) w2 #[] 0 f2.size (by decide) rfl
  have F0 : Fr [] w2 (w2.alloc (.cells #[] 9)) := (Fr.refl [] w2).alloc _
  have HR := Lib.hid (hr.fr F0); have HF2 := Lib.hid (f2.trans F0); have HO2 := Lib.hid O0
  clear hr f2 F0 O0
  go_wp2_with fail
  generalize w2.alloc (.cells #[] 9) = w3 at HR HF2 HO2 ⊢
  generalize w2.heap.size = b0 at HO2 ⊢
  have q := nPkg_any HR.out (o 2) (o 1) F.packages.length (HE.out.oat 2 (by decide)) (HE.out.oat 1 (by decide)) (by have := HE.out.n1; omega) (by have h1 := HE.out.olen 2 (by decide); have h2 := HE.out.len; omega)
  refine (q.mono fun _ _ h => toFr h).mono ?_
  clear q
  rintro e w4 ⟨rfl, f4⟩
  have HR4 := Lib.hid (HR.out.fr f4); have HF4 := Lib.hid (HF2.out.trans f4); have HO4 := Lib.hid (own_fr HO2.out f4)
  clear f4 HR HF2 HO2
  go_wp2_with fail
  skip
  go_loopw [12, 5] (fun c0 t y => ∃ k : Nat, k ≤ F.packages.length ∧ c0 = .int .i64 k ∧ y.ownsRow w.heap.size 9 1 t k ((F.packages.take k).map Value.string) ∧ Fr [] w y ∧ Rd l F.fp F.flags os y r g c) (fun c _ _ => F.packages.length - (intOf c).toNat)
  case atStart => exact ⟨0, Nat.zero_le _, rfl, HO4.out, HF4.out, HR4.out⟩
  case round =>
    obtain ⟨k, hk, rfl, ho, hf, hr⟩ := hrel
    have HO := Lib.hid ho; have HF := Lib.hid hf; have HR := Lib.hid hr
    clear ho hf hr
    by_cases hlt : k < F.packages.length
    · obtain ⟨x, hx⟩ : ∃ x, F.packages[k]? = some x := ⟨_, List.getElem?_eq_getElem hlt⟩
      obtain ⟨p, hp1, hp2⟩ := HE.out.pkgs k x hx
      have HX := Lib.hid hx; have HP1 := Lib.hid hp1; have HP2 := Lib.hid hp2
      clear hx hp1 hp2
      go_wp2_with fail
      refine (pkgAt_any HR.out (o 1) k p x (HE.out.oat 1 (by decide)) HP1.out HP2.out (by have h2 := HE.out.len; omega)).mono ?_
      rintro e w5 ⟨rfl, f5⟩
      have HF5 := Lib.hid (HF.out.trans f5); have HO5 := Lib.hid (own_fr HO.out f5); have HR5 := Lib.hid (HR.out.fr f5)
      clear f5
      go_wp2_with ((with_reducible refine selD 19 ?_); go_must (refine wpList_one _ rfl 25 9 _ rfl _ [.string x] rfl (by rfl) _ _ 1 (by rfl) (by rfl) (by rfl) (by rfl) (by decide) (by decide) rfl ?_; refine Hid.out ?_))
      refine Lib.hid ?_
      have B6 := Blk.new w5 9 [Value.string x].toArray
      have f6 := (Fr.refl [] w5).alloc (.cells [Value.string x].toArray 9)
      have HF6 := Lib.hid (HF5.out.trans f6); have HO6 := Lib.hid (own_fr HO5.out f6); have HR6 := Lib.hid (HR5.out.fr f6); have HN := Lib.hid B6.all
      clear B6 f6
      generalize w5.alloc (.cells [Value.string x].toArray 9) = w6 at HF6 HO6 HR6 HN ⊢
      generalize w5.heap.size = nb at HN ⊢
      go_wp2_with ((with_reducible refine selD 20 ?_); go_must (refine wpList_push w _ rfl _ _ 25 rfl 9 _ _ 1 _ (by rfl) (by rfl) (by rfl) (by rfl) rfl (by rfl) (by decide) _ k _ rfl HO6.out HF6.out nb 1 1 [.string x] rfl rfl HN.out (by intro u hu; simp only [List.mem_singleton] at hu; rw [hu]; rfl) (by omega) (by omega) (by decide) ?_; intro v' w7 ho7 hf7 hg7; refine Hid.out ?_))
      refine Lib.hid ?_
      have HO7 := Lib.hid ho7; have HF7 := Lib.hid hf7
      have HR7 : Hid (Rd l F.fp F.flags os w7 r g c) := Lib.hid (HR6.out.grown (HI.out.fr HF7.out) HO6.out hg7 (by decide))
      clear ho7 hf7 hg7
      go_wp2
      go_roundw
      case rel => exact ⟨k + 1, by omega, by go_num, by
        have h1 := HO7.out
        rw [take_succ_map _ _ _ _ HX.out]
        exact h1, HF7.out, HR7.out⟩
      case measure => simp [intOf]; omega
    · have e : k = F.packages.length := by omega
      subst e
      clear HO
      go_wp2_with ((with_reducible refine selD 24 ?_); refine Hid.out ?_)
      refine Lib.hid ?_
      have O0 := World.ownsRow_lit (base := w.heap.size) (size := 1) (e := 9) wr #[] 0 HF.out.size (by decide) rfl
      have F0 : Fr [] wr (wr.alloc (.cells #[] 9)) := (Fr.refl [] wr).alloc _
      have HR8 := Lib.hid (HR.out.fr F0); have HF8 := Lib.hid (HF.out.trans F0); have HO8 := Lib.hid O0
      clear F0 O0 HR HF
      generalize wr.alloc (.cells #[] 9) = w8 at HR8 HF8 HO8 ⊢
      generalize wr.heap.size = b8 at HO8 ⊢
      go_wp2_with fail
      have q := pkglist_any HR8.out (o 1) (o 2) F.packages (HE.out.oat 1 (by decide)) (HE.out.oat 2 (by decide)) HE.out.n1 HE.out.pkgs hn (by have h1 := HE.out.olen 2 (by decide); have h2 := HE.out.len; omega) (by have h2 := HE.out.len; omega)
      refine q.mono ?_
      clear q
      rintro e w9 ⟨m, rfl, hm, f9⟩
      have HM := Lib.hid hm.all; have HF9 := Lib.hid (HF8.out.trans f9); have HO9 := Lib.hid (own_fr HO8.out f9)
      clear hm f9 HF8 HO8 HR8
      have HLm : Hid ((F.packages.map Value.string).length = F.packages.length * 1) := Lib.hid (by rw [List.length_map, Nat.mul_one])
      go_wp2_with ((with_reducible refine selD 25 ?_); go_must (refine wpList_push w _ rfl _ _ 25 rfl 9 _ _ 1 _ (by rfl) (by rfl) (by rfl) (by rfl) rfl (by rfl) (by decide) _ 0 _ rfl HO9.out HF9.out m F.packages.length F.packages.length (F.packages.map Value.string) rfl HLm.out (by have := HM.out; simpa using this) (by intro u hu; obtain ⟨y, _, rfl⟩ := List.mem_map.1 hu; rfl) (by omega) (by omega) (by decide) ?_; intro v' wz hoz hfz hgz; refine Hid.out ?_))
      refine Lib.hid ?_
      have HOz := Lib.hid hoz; have HFz := Lib.hid hfz
      clear hoz hfz hgz
      go_wp2
      go_ret2
      have h1 := HOz.out
      exact ⟨_, _, rfl, by simpa using h1, HFz.out⟩
end

end Go.Proofs.YtnhafphgkipldaaGreatDoor

/- FileRelocs, FileAuxs: a symbol's relocations and auxiliaries read back. Printed by gen_fr.py. Conditions: the bytes are those of a file. -/
namespace Go.Proofs.YtnhafphgkipldaaGreatDoor
open Go Go.RowKit

theorem bc_flatMap {α : Type} (f : α → By) (l : List α) : Lib.byteCells (l.flatMap f) = l.flatMap (fun x => Lib.byteCells (f x)) := by
  induction l with
  | nil => rfl
  | cons a t ih => simp only [List.flatMap_cons, bc_app, ih]

section
variable {F : Fil} {l : By} {os : List Int} {o : Nat → Nat} {w : World} {g c : Nat}

set_option maxHeartbeats 1600000 in
set_option maxRecDepth 100000 in
theorem fileRelocs_any (E : Ef F l os o) (I : In l w g c) (i : Nat) (d : Def) (hd : (defs F)[i]? = some d) : Calls Tryz.prog 27 #[.slice (some ⟨g, 0, none⟩) l.length c, .int .u32 i] w fun e w' => ∃ v, e = .returned v ∧ w'.ownsRow w.heap.size 157 6 v d.rels.length (d.rels.flatMap Rel.cells) ∧ (∀ r ∈ d.rels, r.ok) ∧ Fr [] w w' := by
  have HE := Lib.hid E; have HI := Lib.hid I
  have hn := (E.small.defs d (List.mem_of_getElem? hd)).2.2.1
  obtain ⟨hok, x, hx1, hx2⟩ := E.rels i d hd
  have HOK := Lib.hid hok; have HX1 := Lib.hid hx1; have HX2 := Lib.hid hx2
  have hxl := hx2.le
  have O0 := World.ownsRow_lit (base := w.heap.size) (size := 6) (e := 157) w #[] 0 (Nat.le_refl _) (by decide) rfl
  have F0 : Fr [] w (w.alloc (.cells #[] 157)) := (Fr.refl [] w).alloc _
  clear E I hok hx1 hx2 hd
  go_enter Tryz.func27, Tryz.ntmps27
  go_wp2_with fail
  generalize w.alloc (.cells #[] 157) = w1 at O0 F0 ⊢
  have HO0 := Lib.hid O0; have HF0 := Lib.hid F0
  clear O0 F0
  refine (newReader_ef HE.out (HI.out.fr HF0.out)).mono ?_
  rintro e w2 ⟨r, rfl, hr, f2⟩
  have HR := Lib.hid hr; have HF2 := Lib.hid (HF0.out.trans f2); have HO2 := Lib.hid (own_fr HO0.out f2)
  clear hr f2 HF0 HO0
  go_wp2_with fail
  have q := relocs_any HR.out (o 11) (o 14) i x d.rels (HE.out.oat 11 (by decide)) (HE.out.oat 14 (by decide)) HX1.out HX2.out hn (by have h2 := HE.out.len; omega) (by have h2 := HE.out.len; omega)
  refine q.mono ?_
  clear q
  rintro e w3 ⟨m, rfl, hm, f3⟩
  rw [bc_flatMap] at hm
  have HM := Lib.hid hm; have HF3 := Lib.hid (HF2.out.trans f3); have HO3 := Lib.hid (own_fr HO2.out f3)
  clear hm f3 HF2 HO2
  go_wp2_with fail
  go_loopw [14, 5] (fun c0 t y => ∃ k : Nat, k ≤ d.rels.length ∧ c0 = .int .i64 k ∧ y.ownsRow w.heap.size 157 6 t k ((d.rels.take k).flatMap Rel.cells) ∧ Fr [] w y ∧ Blk y m 155 (d.rels.flatMap (fun x => Lib.byteCells x.enc)).toArray) (fun c _ _ => d.rels.length - (intOf c).toNat)
  case atStart => exact ⟨0, Nat.zero_le _, rfl, HO3.out, HF3.out, HM.out⟩
  case round =>
    obtain ⟨k, hk, rfl, ho, hf, hm⟩ := hrel
    have HO := Lib.hid ho; have HF := Lib.hid hf; have HM2 := Lib.hid hm
    clear ho hf hm
    by_cases hlt : k < d.rels.length
    · obtain ⟨y, hy⟩ : ∃ y, d.rels[k]? = some y := ⟨_, List.getElem?_eq_getElem hlt⟩
      have hyo := HOK.out y (List.mem_of_getElem? hy)
      have HV : Hid (Cs wr m (k * 23) (Lib.byteCells y.enc)) := Lib.hid (Cs.elem (f := fun x => Lib.byteCells (Rel.enc x)) (by have := HM2.out.all; simpa using this) (fun z _ => by rw [bc_len, rel_len]) hy)
      have HL : Hid ((Lib.byteCells y.enc).length = 23) := Lib.hid (by rw [bc_len, rel_len])
      have HX := Lib.hid hy; have HYO := Lib.hid hyo
      clear hy hyo
      go_wp2_with (first | ((with_reducible refine selD 17 ?_); go_must (refine wpList_load_cs _ rfl 155 _ rfl m (k * 23) (Lib.byteCells y.enc) rfl (Tryz.isAgg155 _) (by rw [HL.out]; exact Tryz.sizeOf155 _) HV.out ?_)) | ((with_reducible refine selS 155 ?_); go_must (refine wpList_store_all _ rfl 155 _ _ rfl _ 155 _ (Lib.byteCells y.enc) rfl rfl (by rw [HL.out]; exact Tryz.sizeOf155 _) (Blk.new _ 155 _) (by rw [HL.out]; rfl) (bc_one _) ?_; intro w5 hb5 hf5; refine Hid.out ?_)))
      refine Lib.hid ?_
      have f5 : Fr [] wr w5 := ((Fr.refl [] wr).alloc _ |>.mono (S' := [wr.heap.size]) (by simp)).trans hf5 |>.mono (S' := []) (by simp)
      have HN5 := Lib.hid hb5.all
      have HF5 := Lib.hid (HF.out.trans f5); have HO5 := Lib.hid (own_fr HO.out f5); have HM5 := Lib.hid (f5.blk (by simp) HM2.out)
      clear hb5 hf5 f5
      go_wp2_with fail
      refine (toldRel_any _ 0 y w5 HYO.out (by have := HN5.out; simpa using this)).mono ?_
      rintro e w6 ⟨rfl, f6⟩
      have HF6 := Lib.hid (HF5.out.trans f6); have HO6 := Lib.hid (own_fr HO5.out f6); have HM6 := Lib.hid (f6.blk (by simp) HM5.out)
      clear f6
      go_wp2_with ((with_reducible refine selD 20 ?_); go_must (refine wpList_one _ rfl 48 157 _ rfl _ y.cells rfl (by rfl) _ _ 6 (by rfl) (by rfl) (by rfl) (by rfl) (by decide) (by decide) rfl ?_; refine Hid.out ?_))
      refine Lib.hid ?_
      have B7 := Blk.new w6 157 y.cells.toArray
      have f7 := (Fr.refl [] w6).alloc (.cells y.cells.toArray 157)
      have HF7 := Lib.hid (HF6.out.trans f7); have HO7 := Lib.hid (own_fr HO6.out f7); have HM7 := Lib.hid (f7.blk (by simp) HM6.out); have HN := Lib.hid B7.all
      clear B7 f7
      generalize w6.alloc (.cells y.cells.toArray 157) = w7 at HF7 HO7 HM7 HN ⊢
      generalize w6.heap.size = nb at HN ⊢
      go_wp2_with ((with_reducible refine selD 21 ?_); go_must (refine wpList_push w _ rfl _ _ 48 rfl 157 _ _ 6 _ (by rfl) (by rfl) (by rfl) (by rfl) rfl (by rfl) (by decide) _ k _ rfl HO7.out HF7.out nb 1 1 y.cells rfl rfl HN.out (rel_one ⟨HYO.out, rfl⟩) (by omega) (by omega) (by decide) ?_; intro v' w8 ho8 hf8 hg8; refine Hid.out ?_))
      refine Lib.hid ?_
      have HO8 := Lib.hid ho8; have HF8 := Lib.hid hf8; have HM8 := Lib.hid (blk_grown HM7.out HO7.out hg8 (by decide))
      clear ho8 hf8 hg8
      go_wp2
      go_roundw
      case rel => exact ⟨k + 1, by omega, by go_num, by
        have h1 := HO8.out
        rw [show (d.rels.take (k + 1)).flatMap Rel.cells = (d.rels.take k).flatMap Rel.cells ++ y.cells from by rw [List.take_add_one, HX.out]; simp]
        exact h1, HF8.out, HM8.out⟩
      case measure => simp [intOf]; omega
    · have e : k = d.rels.length := by omega
      subst e
      go_wp2
      go_ret
      have h1 := HO.out
      rw [List.take_length] at h1
      exact ⟨_, rfl, h1, HOK.out, HF.out⟩

set_option maxHeartbeats 1600000 in
set_option maxRecDepth 100000 in
theorem fileAuxs_any (E : Ef F l os o) (I : In l w g c) (i : Nat) (d : Def) (hd : (defs F)[i]? = some d) : Calls Tryz.prog 28 #[.slice (some ⟨g, 0, none⟩) l.length c, .int .u32 i] w fun e w' => ∃ v, e = .returned v ∧ w'.ownsRow w.heap.size 165 3 v d.auxs.length (d.auxs.flatMap Aux.cells) ∧ (∀ r ∈ d.auxs, r.ok) ∧ Fr [] w w' := by
  have HE := Lib.hid E; have HI := Lib.hid I
  have hn := (E.small.defs d (List.mem_of_getElem? hd)).2.2.2
  obtain ⟨hok, x, hx1, hx2⟩ := E.auxs i d hd
  have HOK := Lib.hid hok; have HX1 := Lib.hid hx1; have HX2 := Lib.hid hx2
  have hxl := hx2.le
  have O0 := World.ownsRow_lit (base := w.heap.size) (size := 3) (e := 165) w #[] 0 (Nat.le_refl _) (by decide) rfl
  have F0 : Fr [] w (w.alloc (.cells #[] 165)) := (Fr.refl [] w).alloc _
  clear E I hok hx1 hx2 hd
  go_enter Tryz.func28, Tryz.ntmps28
  go_wp2_with fail
  generalize w.alloc (.cells #[] 165) = w1 at O0 F0 ⊢
  have HO0 := Lib.hid O0; have HF0 := Lib.hid F0
  clear O0 F0
  refine (newReader_ef HE.out (HI.out.fr HF0.out)).mono ?_
  rintro e w2 ⟨r, rfl, hr, f2⟩
  have HR := Lib.hid hr; have HF2 := Lib.hid (HF0.out.trans f2); have HO2 := Lib.hid (own_fr HO0.out f2)
  clear hr f2 HF0 HO0
  go_wp2_with fail
  have q := auxs_any HR.out (o 12) (o 15) i x d.auxs (HE.out.oat 12 (by decide)) (HE.out.oat 15 (by decide)) HX1.out HX2.out hn (by have h2 := HE.out.len; omega) (by have h2 := HE.out.len; omega)
  refine q.mono ?_
  clear q
  rintro e w3 ⟨m, rfl, hm, f3⟩
  rw [bc_flatMap] at hm
  have HM := Lib.hid hm; have HF3 := Lib.hid (HF2.out.trans f3); have HO3 := Lib.hid (own_fr HO2.out f3)
  clear hm f3 HF2 HO2
  go_wp2_with fail
  go_loopw [14, 5] (fun c0 t y => ∃ k : Nat, k ≤ d.auxs.length ∧ c0 = .int .i64 k ∧ y.ownsRow w.heap.size 165 3 t k ((d.auxs.take k).flatMap Aux.cells) ∧ Fr [] w y ∧ Blk y m 163 (d.auxs.flatMap (fun x => Lib.byteCells x.enc)).toArray) (fun c _ _ => d.auxs.length - (intOf c).toNat)
  case atStart => exact ⟨0, Nat.zero_le _, rfl, HO3.out, HF3.out, HM.out⟩
  case round =>
    obtain ⟨k, hk, rfl, ho, hf, hm⟩ := hrel
    have HO := Lib.hid ho; have HF := Lib.hid hf; have HM2 := Lib.hid hm
    clear ho hf hm
    by_cases hlt : k < d.auxs.length
    · obtain ⟨y, hy⟩ : ∃ y, d.auxs[k]? = some y := ⟨_, List.getElem?_eq_getElem hlt⟩
      have hyo := HOK.out y (List.mem_of_getElem? hy)
      have HV : Hid (Cs wr m (k * 9) (Lib.byteCells y.enc)) := Lib.hid (Cs.elem (f := fun x => Lib.byteCells (Aux.enc x)) (by have := HM2.out.all; simpa using this) (fun z _ => by rw [bc_len, aux_len]) hy)
      have HL : Hid ((Lib.byteCells y.enc).length = 9) := Lib.hid (by rw [bc_len, aux_len])
      have HX := Lib.hid hy; have HYO := Lib.hid hyo
      clear hy hyo
      go_wp2_with (first | ((with_reducible refine selD 17 ?_); go_must (refine wpList_load_cs _ rfl 163 _ rfl m (k * 9) (Lib.byteCells y.enc) rfl (Tryz.isAgg163 _) (by rw [HL.out]; exact Tryz.sizeOf163 _) HV.out ?_)) | ((with_reducible refine selS 163 ?_); go_must (refine wpList_store_all _ rfl 163 _ _ rfl _ 163 _ (Lib.byteCells y.enc) rfl rfl (by rw [HL.out]; exact Tryz.sizeOf163 _) (Blk.new _ 163 _) (by rw [HL.out]; rfl) (bc_one _) ?_; intro w5 hb5 hf5; refine Hid.out ?_)))
      refine Lib.hid ?_
      have f5 : Fr [] wr w5 := ((Fr.refl [] wr).alloc _ |>.mono (S' := [wr.heap.size]) (by simp)).trans hf5 |>.mono (S' := []) (by simp)
      have HN5 := Lib.hid hb5.all
      have HF5 := Lib.hid (HF.out.trans f5); have HO5 := Lib.hid (own_fr HO.out f5); have HM5 := Lib.hid (f5.blk (by simp) HM2.out)
      clear hb5 hf5 f5
      go_wp2_with fail
      refine (toldAux_any _ 0 y w5 HYO.out (by have := HN5.out; simpa using this)).mono ?_
      rintro e w6 ⟨rfl, f6⟩
      have HF6 := Lib.hid (HF5.out.trans f6); have HO6 := Lib.hid (own_fr HO5.out f6); have HM6 := Lib.hid (f6.blk (by simp) HM5.out)
      clear f6
      go_wp2_with ((with_reducible refine selD 20 ?_); go_must (refine wpList_one _ rfl 49 165 _ rfl _ y.cells rfl (by rfl) _ _ 3 (by rfl) (by rfl) (by rfl) (by rfl) (by decide) (by decide) rfl ?_; refine Hid.out ?_))
      refine Lib.hid ?_
      have B7 := Blk.new w6 165 y.cells.toArray
      have f7 := (Fr.refl [] w6).alloc (.cells y.cells.toArray 165)
      have HF7 := Lib.hid (HF6.out.trans f7); have HO7 := Lib.hid (own_fr HO6.out f7); have HM7 := Lib.hid (f7.blk (by simp) HM6.out); have HN := Lib.hid B7.all
      clear B7 f7
      generalize w6.alloc (.cells y.cells.toArray 165) = w7 at HF7 HO7 HM7 HN ⊢
      generalize w6.heap.size = nb at HN ⊢
      go_wp2_with ((with_reducible refine selD 21 ?_); go_must (refine wpList_push w _ rfl _ _ 49 rfl 165 _ _ 3 _ (by rfl) (by rfl) (by rfl) (by rfl) rfl (by rfl) (by decide) _ k _ rfl HO7.out HF7.out nb 1 1 y.cells rfl rfl HN.out (aux_one ⟨HYO.out, rfl⟩) (by omega) (by omega) (by decide) ?_; intro v' w8 ho8 hf8 hg8; refine Hid.out ?_))
      refine Lib.hid ?_
      have HO8 := Lib.hid ho8; have HF8 := Lib.hid hf8; have HM8 := Lib.hid (blk_grown HM7.out HO7.out hg8 (by decide))
      clear ho8 hf8 hg8
      go_wp2
      go_roundw
      case rel => exact ⟨k + 1, by omega, by go_num, by
        have h1 := HO8.out
        rw [show (d.auxs.take (k + 1)).flatMap Aux.cells = (d.auxs.take k).flatMap Aux.cells ++ y.cells from by rw [List.take_add_one, HX.out]; simp]
        exact h1, HF8.out, HM8.out⟩
      case measure => simp [intOf]; omega
    · have e : k = d.auxs.length := by omega
      subst e
      go_wp2
      go_ret
      have h1 := HO.out
      rw [List.take_length] at h1
      exact ⟨_, rfl, h1, HOK.out, HF.out⟩
end

end Go.Proofs.YtnhafphgkipldaaGreatDoor
