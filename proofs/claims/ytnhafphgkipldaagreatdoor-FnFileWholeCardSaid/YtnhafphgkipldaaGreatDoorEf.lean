/- What the bytes of a file hold where; and the first readers of whole lists. Conditions: none beyond that. -/
import Derived.Test.YtnhafphgkipldaaGreatDoorPsh
namespace Go.Proofs.YtnhafphgkipldaaGreatDoor
open Go Go.RowKit

/-- The bytes l are those of the file F: its blocks begin at o. -/
structure Ef (F : Fil) (l : By) (os : List Int) (o : Nat → Nat) : Prop where
  oat : ∀ j < 19, os[j]? = some (o j : Int)
  osl : os.length = 19
  oso : ∀ x ∈ os, u32ok x
  fpl : F.fp.length = 8
  flo : u32ok F.flags
  head : ∃ t, l = hbytes magic F.fp F.flags os ++ t
  len : l.length ≤ 1000000
  olen : ∀ j < 19, o j ≤ l.length
  small : Small F
  imps : Imps l (o 0) F.imports
  pkgs : Refs l (o 1) F.packages
  files : Refs l (o 2) F.files
  n0 : o 1 = o 0 + F.imports.length * 16
  n1 : o 2 = o 1 + F.packages.length * 8
  n2 : o 3 = o 2 + F.files.length * 8
  n3 : o 4 = o 3 + F.own.length * 21
  n4 : o 5 = o 4 + F.short.length * 21
  n5 : o 6 = o 5 + F.hashed.length * 21
  n6 : o 7 = o 6 + F.other.length * 21
  n7 : o 8 = o 7 + F.refs.length * 21
  n8 : o 9 = o 8 + F.refFlags.length * 10
  n17 : o 18 = o 17 + F.refNames.length * 16
  syms : ∀ (i : Nat) (d : Rfd), ((defs F).map Def.rfd ++ F.refs)[i]? = some d → d.sy.ok ∧ ∃ p : Nat, At l (o 3 + i * 21) (le4 d.name.size ++ le4 p ++ d.sy.enc) ∧ At l p d.name.data.toList
  flags : ∀ (i : Nat) (f : Flg), F.refFlags[i]? = some f → f.ok ∧ At l (o 8 + i * 10) f.enc
  h64 : ∀ (i : Nat) (x : Int), F.hashes64[i]? = some x → u64ok x ∧ At l (o 9 + i * 8) (le8 x)
  h128 : ∀ (i : Nat) (x : By), F.hashes[i]? = some x → x.length = 16 ∧ At l (o 10 + i * 16) x
  rels : ∀ (i : Nat) (d : Def), (defs F)[i]? = some d → (∀ r ∈ d.rels, r.ok) ∧ ∃ x : Nat, At l (o 11 + i * 4) (le4 x ++ le4 ((x + d.rels.length : Nat) : Int)) ∧ At l (o 14 + x * 23) (d.rels.flatMap Rel.enc)
  auxs : ∀ (i : Nat) (d : Def), (defs F)[i]? = some d → (∀ r ∈ d.auxs, r.ok) ∧ ∃ x : Nat, At l (o 12 + i * 4) (le4 x ++ le4 ((x + d.auxs.length : Nat) : Int)) ∧ At l (o 15 + x * 9) (d.auxs.flatMap Aux.enc)
  data : ∀ (i : Nat) (d : Def), (defs F)[i]? = some d → ∃ x : Nat, At l (o 13 + i * 4) (le4 x ++ le4 ((x + d.data.size : Nat) : Int)) ∧ At l (o 16 + x) d.data.data.toList
  names : ∀ (i : Nat) (d : Nam), F.refNames[i]? = some d → d.ok ∧ ∃ p : Nat, At l (o 17 + i * 16) (d.ref.enc ++ le4 d.name.size ++ le4 p) ∧ At l p d.name.data.toList
/-- .. and they lie in block g. -/
structure In (l : By) (w : World) (g c : Nat) : Prop where
  cap : l.length ≤ c
  cs : Cs w g 0 (Lib.byteCells l)
  lt : g < w.heap.size
theorem In.fr {l : By} {w w' : World} {g c : Nat} (h : In l w g c) (f : Fr [] w w') : In l w' g c := ⟨h.cap, f.cs (by simp) h.cs, Nat.lt_of_lt_of_le h.lt f.size⟩

theorem own_fr {w w' : World} {B : Nat} {e : TypeId} {sz n : Nat} {v : Value} {xs : List Value} (h : w.ownsRow B e sz v n xs) (f : Fr [] w w') : w'.ownsRow B e sz v n xs :=
  h.kept (row := none) ⟨f.os, f.tape, f.output, f.size, fun k hk _ => f.block k hk (by simp)⟩ (by cases v.ownBlock with | none => exact .inl rfl | some b => exact .inr (by simp))

section
variable {F : Fil} {l : By} {os : List Int} {o : Nat → Nat} {w : World} {g c : Nat}
theorem newReader_ef (E : Ef F l os o) (I : In l w g c) : Calls Tryz.prog 63 #[.slice (some ⟨g, 0, none⟩) l.length c, .bool false] w fun e w' => ∃ r, e = .returned (.pointer (some ⟨r, 0, none⟩)) ∧ Rd l F.fp F.flags os w' r g c ∧ Fr [] w w' := by
  obtain ⟨t, ht⟩ := E.head
  exact newReader_any l F.fp t F.flags os g c w E.fpl E.osl E.oso E.flo ht (by have := E.len; omega) I.cap I.cs I.lt

set_option maxHeartbeats 1600000 in
set_option maxRecDepth 100000 in
theorem fileImports_any (E : Ef F l os o) (I : In l w g c) : Calls Tryz.prog 20 #[.slice (some ⟨g, 0, none⟩) l.length c] w fun e w' => ∃ v, e = .returned v ∧ w'.ownsRow w.heap.size 59 9 v F.imports.length (F.imports.flatMap Imp.cells) ∧ Fr [] w w' := by
  have HE := Lib.hid E; have HI := Lib.hid I
  have hn := E.small.nImps
  have O0 := World.ownsRow_lit (base := w.heap.size) (size := 9) (e := 59) w #[] 0 (Nat.le_refl _) (by decide) rfl
  have F0 : Fr [] w (w.alloc (.cells #[] 59)) := (Fr.refl [] w).alloc _
  clear E I
  go_enter Tryz.func20, Tryz.ntmps20
  go_wp2_with fail
  generalize w.alloc (.cells #[] 59) = w1 at O0 F0 ⊢
  have HO0 := Lib.hid O0; have HF0 := Lib.hid F0
  clear O0 F0
  refine (newReader_ef HE.out (HI.out.fr HF0.out)).mono ?_
  rintro e w2 ⟨r, rfl, hr, f2⟩
  have HR := Lib.hid hr; have HF2 := Lib.hid (HF0.out.trans f2); have HO2 := Lib.hid (own_fr HO0.out f2)
  clear hr f2 HF0 HO0
  go_wp2_with fail
  have q := autolib_any HR.out (o 0) (o 1) F.imports (HE.out.oat 0 (by decide)) (HE.out.oat 1 (by decide)) HE.out.n0 HE.out.imps hn (by have h1 := HE.out.olen 1 (by decide); have h2 := HE.out.len; omega) (by have h2 := HE.out.len; omega)
  refine q.mono ?_
  clear q
  rintro e w3 ⟨m, rfl, hm, f3⟩
  have HM := Lib.hid hm; have HF3 := Lib.hid (HF2.out.trans f3); have HO3 := Lib.hid (own_fr HO2.out f3)
  clear hm f3 HF2 HO2
  have hokx : ∀ y ∈ F.imports, y.ok := by
    intro y hy
    obtain ⟨j, hj⟩ := List.mem_iff_getElem?.1 hy
    exact (HE.out.imps j y hj).1
  have hlen9 : ∀ y ∈ F.imports, y.cells.length = 9 := by
    intro y hy
    have h1 : y.fp.length = 8 := hokx y hy
    simp [Imp.cells, bc_len, h1]
  have H9 := Lib.hid hlen9; have HK := Lib.hid hokx
  clear hlen9 hokx
  go_wp2_with fail
  go_loopw [11, 3] (fun c0 t y => ∃ k : Nat, k ≤ F.imports.length ∧ c0 = .int .i64 k ∧ y.ownsRow w.heap.size 59 9 t k ((F.imports.take k).flatMap Imp.cells) ∧ Fr [] w y ∧ Blk y m 121 (F.imports.flatMap Imp.cells).toArray) (fun c _ _ => F.imports.length - (intOf c).toNat)
  case atStart => exact ⟨0, Nat.zero_le _, rfl, HO3.out, HF3.out, HM.out⟩
  case round =>
    obtain ⟨k, hk, rfl, ho, hf, hm⟩ := hrel
    have HO := Lib.hid ho; have HF := Lib.hid hf; have HM2 := Lib.hid hm
    clear ho hf hm
    by_cases hlt : k < F.imports.length
    · obtain ⟨x, hx⟩ : ∃ x, F.imports[k]? = some x := ⟨_, List.getElem?_eq_getElem hlt⟩
      have hmem := List.mem_of_getElem? hx
      have HV := Lib.hid (Cs.elem (by have := HM2.out.all; simpa using this) H9.out hx)
      have HL : Hid (x.cells.length = 9) := Lib.hid (H9.out x hmem)
      have HXo : Hid x.ok := Lib.hid (HK.out x hmem)
      have HFP : Hid (x.fp.length = 8) := Lib.hid (HK.out x hmem)
      have H1 := Lib.hid (imp_one ⟨HXo.out, rfl⟩)
      have HX := Lib.hid hx
      clear hx hmem
      go_wp2_with (first | ((with_reducible refine selD 14 ?_); go_must (refine wpList_load_cs _ rfl 121 _ rfl m (k * 9) x.cells rfl (Tryz.isAgg121 _) (by rw [HL.out]; exact Tryz.sizeOf121 _) HV.out ?_)) | ((with_reducible refine selS 121 ?_); go_must (refine wpList_store_all _ rfl 121 _ _ rfl _ 121 _ x.cells rfl rfl (by rw [HL.out]; exact Tryz.sizeOf121 _) (Blk.new _ 121 _) (by rw [HL.out]; rfl) H1.out ?_; intro w5 hb5 hf5; refine Hid.out ?_)))
      refine Lib.hid ?_
      have f5 : Fr [] wr w5 := ((Fr.refl [] wr).alloc _ |>.mono (S' := [wr.heap.size]) (by simp)).trans hf5 |>.mono (S' := []) (by simp)
      have c5 : w5.cell? ⟨wr.heap.size, 0, none⟩ = some (.string x.pkg) := by rw [hb5.cell]; rfl
      have C5 : Hid (Cs w5 wr.heap.size 1 (Lib.byteCells x.fp)) := Lib.hid (hb5.part (p := [.string x.pkg]) (s := Lib.byteCells x.fp) (q := []) (by simp [Imp.cells]))
      have HF5 := Lib.hid (HF.out.trans f5); have HO5 := Lib.hid (own_fr HO.out f5); have HM5 := Lib.hid (f5.blk (by simp) HM2.out)
      clear hb5 hf5 f5
      go_wp2_with (first | ((with_reducible refine selD 19 ?_); go_must (refine wpList_load_cs _ rfl 61 _ rfl wr.heap.size 1 (Lib.byteCells x.fp) rfl (Tryz.isAgg61 _) (by rw [bc_len, HFP.out]; exact Tryz.sizeOf61 _) C5.out ?_)) | ((with_reducible refine selD 20 ?_); go_must (refine wpList_build _ rfl 59 _ _ rfl _ _ _ rfl rfl (build59 x.pkg x.fp HFP.out _) ?_)) | ((with_reducible refine selD 21 ?_); go_must (refine wpList_one _ rfl 24 59 _ rfl _ x.cells rfl (by rfl) _ _ 9 (by rfl) (by rfl) (by rfl) (by rfl) (by decide) (by decide) HL.out ?_; refine Hid.out ?_)))
      refine Lib.hid ?_
      have B6 := Blk.new w5 59 x.cells.toArray
      have f6 := (Fr.refl [] w5).alloc (.cells x.cells.toArray 59)
      have HF6 := Lib.hid (HF5.out.trans f6); have HO6 := Lib.hid (own_fr HO5.out f6); have HM6 := Lib.hid (f6.blk (by simp) HM5.out); have HN := Lib.hid B6.all
      clear B6 f6 c5
      generalize w5.alloc (.cells x.cells.toArray 59) = w6 at HF6 HO6 HM6 HN ⊢
      generalize w5.heap.size = nb at HN ⊢
      go_wp2_with ((with_reducible refine selD 22 ?_); go_must (refine wpList_push w _ rfl _ _ 24 rfl 59 _ _ 9 _ (by rfl) (by rfl) (by rfl) (by rfl) rfl (by rfl) (by decide) _ k _ rfl HO6.out HF6.out nb 1 1 x.cells rfl (by rw [HL.out]) HN.out H1.out (by omega) (by omega) (by decide) ?_; intro v' w7 ho7 hf7 hg7; refine Hid.out ?_))
      refine Lib.hid ?_
      have HO7 := Lib.hid ho7; have HF7 := Lib.hid hf7; have HM7 := Lib.hid (blk_grown HM6.out HO6.out hg7 (by decide))
      clear ho7 hf7 hg7
      go_wp2
      go_roundw
      case rel => exact ⟨k + 1, by omega, by go_num, by
        have h1 := HO7.out
        rw [show (F.imports.take (k + 1)).flatMap Imp.cells = (F.imports.take k).flatMap Imp.cells ++ x.cells from by rw [List.take_add_one, HX.out]; simp]
        exact h1, HF7.out, HM7.out⟩
      case measure => simp [intOf]; omega
    · have e : k = F.imports.length := by omega
      subst e
      go_wp2
      go_ret
      have h1 := HO.out
      rw [List.take_length] at h1
      exact ⟨_, rfl, h1, HF.out⟩
end

end Go.Proofs.YtnhafphgkipldaaGreatDoor
