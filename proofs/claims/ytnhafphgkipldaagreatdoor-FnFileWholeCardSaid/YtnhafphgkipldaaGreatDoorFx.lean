/- FileSym, FileFlags, FileRefName, FileHash64, FileHash: single records read back. Printed by gen_fx.py. Conditions: the bytes are those of a file. -/
import Derived.Test.YtnhafphgkipldaaGreatDoorFf
namespace Go.Proofs.YtnhafphgkipldaaGreatDoor
open Go Go.RowKit

theorem results_ct {P : Program} (fn : Func) (a t b : Nat) (h : fn.results = #[.cell a t, .tmp b]) (tmps : Array Value) (bk off : Nat) (u : Value) (hx : tmps.getD a undef = .pointer (some ⟨bk, off, none⟩)) (hu : tmps.getD b undef = u) (w : World) (xs : List Value) (hagg : (isAgg t).run P w = .ok true w)
    (hsz : (sizeOf t).run P w = .ok xs.length w) (hc : Cs w bk off xs) : (results fn tmps).run P w = .ok (.tuple #[.agg xs.toArray, u]) w := by
  have hl := run_loadCells_list (P := P) w ⟨bk, off, none⟩ xs hc.addr
  have hx' : tmps[a]?.getD undef = .pointer (some ⟨bk, off, none⟩) := by rw [← hx]; simp
  have hu' : tmps[b]?.getD undef = u := by rw [← hu]; simp
  simp [results, h, hx', hu', asAddr, loadVar, hagg, hsz, hl, Result.andThen]
theorem build53 (s : ByteArray) (y : Sy) (W : World) : (Instr.build 53 #[(0, .string s), (1, .agg y.cells.toArray)]).run Tryz.prog W = .ok (.agg (Rfd.cells ⟨s, y⟩).toArray) W := by
  obtain ⟨a, b, c, d, e, f⟩ := y
  show _ = _
  kernel_rfl
theorem build57 (s : ByteArray) (x y : Int) (W : World) : (Instr.build 57 #[(0, .agg #[.int .u32 x, .int .u32 y]), (1, .string s)]).run Tryz.prog W = .ok (.agg (Nam.cells ⟨⟨x, y⟩, s⟩).toArray) W := by
  show _ = _
  kernel_rfl

section
variable {F : Fil} {l : By} {os : List Int} {o : Nat → Nat} {w : World} {g c : Nat}

set_option maxHeartbeats 1600000 in
set_option maxRecDepth 100000 in
theorem fileSym_any (E : Ef F l os o) (I : In l w g c) (i : Nat) (d : Rfd) (hd : ((defs F).map Def.rfd ++ F.refs)[i]? = some d) : Calls Tryz.prog 25 #[.slice (some ⟨g, 0, none⟩) l.length c, .int .u32 i] w fun e w' => e = .returned (.tuple #[.agg d.cells.toArray, .int .i64 d.name.size]) ∧ Fr [] w w' := by
  have HE := Lib.hid E; have HI := Lib.hid I
  obtain ⟨hok, p, hp1, hp2⟩ := E.syms i d hd
  have hle := hp1.le
  have e21 : (le4 (d.name.size : Int) ++ le4 (p : Int) ++ d.sy.enc).length = 21 := rfl
  rw [e21] at hle
  have HOK := Lib.hid hok; have HP1 := Lib.hid hp1; have HP2 := Lib.hid hp2
  have hsz := hp2.le
  rw [str_len] at hsz
  have hll := E.len
  clear E I hok hp1 hp2 hd e21
  have B0 := Blk.new w 53 #[Value.string { data := #[] }, .int .u16 0, .int .u8 0, .int .u8 0, .int .u8 0, .int .u32 0, .int .u32 0]
  have F0 := (Fr.refl [] w).alloc (.cells #[Value.string { data := #[] }, .int .u16 0, .int .u8 0, .int .u8 0, .int .u8 0, .int .u32 0, .int .u32 0] 53)
  go_enter Tryz.func25, Tryz.ntmps25
  go_wp2_with fail
  generalize w.alloc (.cells #[Value.string { data := #[] }, .int .u16 0, .int .u8 0, .int .u8 0, .int .u8 0, .int .u32 0, .int .u32 0] 53) = w1 at B0 F0 ⊢
  have HB0 := Lib.hid B0; have HF0 := Lib.hid F0
  clear B0 F0
  refine (newReader_ef HE.out (HI.out.fr HF0.out)).mono ?_
  rintro e w2 ⟨r, rfl, hr, f2⟩
  have HR := Lib.hid hr; have HF2 := Lib.hid (HF0.out.trans f2); have HB2 := Lib.hid (f2.blk (by simp) HB0.out)
  clear hr f2 HF0 HB0
  go_wp2_with fail
  have q := symAt_any HR.out (o 3) i (HE.out.oat 3 (by decide)) hle (by omega)
  refine (q.mono fun _ _ h => toFr0 h).mono ?_
  clear q
  rintro e w3 ⟨rfl, f3⟩
  have HR3 := Lib.hid (HR.out.fr f3); have HF3 := Lib.hid (HF2.out.trans f3); have HB3 := Lib.hid (f3.blk (by simp) HB2.out)
  clear f3
  have HAT : Hid (At l (o 3 + i * 21) (le4 d.name.size ++ le4 p ++ d.sy.enc)) := HP1
  generalize o 3 + i * 21 = at0 at HAT ⊢
  go_wp2_with fail
  have q := symName_any HR3.out at0 p d.name HAT.out.left HP2.out (by omega)
  refine q.mono ?_
  clear q
  rintro e w4 ⟨rfl, f4⟩
  have HR4 := Lib.hid (HR3.out.fr f4); have HF4 := Lib.hid (HF3.out.trans f4); have HB4 := Lib.hid (f4.blk (by simp) HB3.out)
  clear f4
  go_wp2_with fail
  have q := toldSym_any g at0 d.sy w4 HOK.out (by have := HAT.out.right.cs' HR4.out; simpa [le4_len] using this)
  refine q.mono ?_
  clear q
  rintro e w5 ⟨rfl, f5⟩
  have HR5 := Lib.hid (HR4.out.fr f5); have HF5 := Lib.hid (HF4.out.trans f5); have HB5 := Lib.hid (f5.blk (by simp) HB4.out)
  clear f5
  go_wp2_with ((with_reducible refine selD 18 ?_); go_must (refine wpList_build _ rfl 53 _ _ rfl _ _ _ rfl rfl (build53 d.name d.sy _) ?_))
  have q := nameLen_any HR5.out at0 d.name.size HAT.out.left.left (by omega)
  refine q.mono ?_
  clear q
  rintro e w6 ⟨rfl, f6⟩
  have HR6 := Lib.hid (HR5.out.fr f6); have HF6 := Lib.hid (HF5.out.trans f6); have HB6 := Lib.hid (f6.blk (by simp) HB5.out)
  clear f6
  have hone : ∀ v ∈ d.cells, v.oneCell' = true := by intro v hv; simp only [Rfd.cells, Sy.cells, List.mem_cons, List.not_mem_nil, or_false] at hv; rcases hv with rfl | rfl | rfl | rfl | rfl | rfl | rfl <;> rfl
  have HONE := Lib.hid hone
  clear hone
  go_wp2_with ((with_reducible refine selS 53 ?_); go_must (refine wpList_store_all _ rfl 53 _ _ rfl _ 53 _ d.cells rfl rfl (Tryz.sizeOf53 _) HB6.out rfl HONE.out ?_; intro wS hbS hfS; refine Hid.out ?_))
  refine Lib.hid ?_
  have HC := Lib.hid hbS.all
  have HH := Lib.hid ((HF6.out.mono (S' := [w.heap.size]) (by simp)).trans hfS |>.mono (S' := []) (by simp))
  clear hbS hfS
  go_wp2_with fail
  exact bodyPost_ret (results_ct _ 4 53 5 rfl _ w.heap.size 0 _ rfl rfl _ d.cells (Tryz.isAgg53 _) (Tryz.sizeOf53 _) (by have := HC.out; simpa using this)) rfl ⟨rfl, HH.out⟩

set_option maxHeartbeats 1600000 in
set_option maxRecDepth 100000 in
theorem fileFlags_any (E : Ef F l os o) (I : In l w g c) (i : Nat) (d : Flg) (hd : F.refFlags[i]? = some d) : Calls Tryz.prog 29 #[.slice (some ⟨g, 0, none⟩) l.length c, .int .i64 i] w fun e w' => e = .returned (.agg d.cells.toArray) ∧ FlgR d d.cells ∧ Fr [] w w' := by
  have HE := Lib.hid E; have HI := Lib.hid I
  obtain ⟨hok, hp1⟩ := E.flags i d hd
  have hle := hp1.le
  rw [flg_len] at hle
  have HOK := Lib.hid hok; have HP1 := Lib.hid hp1
  have hll := E.len
  clear E I hok hp1 hd
  have B0 := Blk.new w 92 #[Value.int .u32 0, .int .u32 0, .int .u8 0, .int .u8 0]
  have F0 := (Fr.refl [] w).alloc (.cells #[Value.int .u32 0, .int .u32 0, .int .u8 0, .int .u8 0] 92)
  go_enter Tryz.func29, Tryz.ntmps29
  go_wp2_with fail
  generalize w.alloc (.cells #[Value.int .u32 0, .int .u32 0, .int .u8 0, .int .u8 0] 92) = w1 at B0 F0 ⊢
  have HB0 := Lib.hid B0; have HF0 := Lib.hid F0
  clear B0 F0
  refine (newReader_ef HE.out (HI.out.fr HF0.out)).mono ?_
  rintro e w2 ⟨r, rfl, hr, f2⟩
  have HR := Lib.hid hr; have HF2 := Lib.hid (HF0.out.trans f2); have HB2 := Lib.hid (f2.blk (by simp) HB0.out)
  clear hr f2 HF0 HB0
  go_wp2_with fail
  have q := flagAt_any HR.out (o 8) i (HE.out.oat 8 (by decide)) hle (by omega)
  refine (q.mono fun _ _ h => toFr0 h).mono ?_
  clear q
  rintro e w3 ⟨rfl, f3⟩
  have HR3 := Lib.hid (HR.out.fr f3); have HF3 := Lib.hid (HF2.out.trans f3); have HB3 := Lib.hid (f3.blk (by simp) HB2.out)
  clear f3
  go_wp2_with fail
  have q := toldFlg_any g (o 8 + i * 10) d w3 HOK.out (HP1.out.cs' HR3.out)
  refine q.mono ?_
  clear q
  rintro e w4 ⟨rfl, f4⟩
  have HR4 := Lib.hid (HR3.out.fr f4); have HF4 := Lib.hid (HF3.out.trans f4); have HB4 := Lib.hid (f4.blk (by simp) HB3.out)
  clear f4
  have hone := flg_one (⟨HOK.out, rfl⟩ : FlgR d d.cells)
  have HONE := Lib.hid hone
  clear hone
  go_wp2_with ((with_reducible refine selS 92 ?_); go_must (refine wpList_store_all _ rfl 92 _ _ rfl _ 92 _ d.cells rfl rfl (Tryz.sizeOf92 _) HB4.out rfl HONE.out ?_; intro wS hbS hfS; refine Hid.out ?_))
  refine Lib.hid ?_
  have HC := Lib.hid hbS.all
  have HH := Lib.hid ((HF4.out.mono (S' := [w.heap.size]) (by simp)).trans hfS |>.mono (S' := []) (by simp))
  clear hbS hfS
  go_wp2_with fail
  exact bodyPost_ret (results_cell _ 4 92 rfl _ w.heap.size 0 rfl _ d.cells (Tryz.isAgg92 _) (Tryz.sizeOf92 _) (by have := HC.out; simpa using this)) rfl ⟨rfl, ⟨HOK.out, rfl⟩, HH.out⟩

set_option maxHeartbeats 1600000 in
set_option maxRecDepth 100000 in
theorem fileRefName_any (E : Ef F l os o) (I : In l w g c) (i : Nat) (d : Nam) (hd : F.refNames[i]? = some d) : Calls Tryz.prog 30 #[.slice (some ⟨g, 0, none⟩) l.length c, .int .i64 i] w fun e w' => e = .returned (.agg d.cells.toArray) ∧ NamR d d.cells ∧ Fr [] w w' := by
  have HE := Lib.hid E; have HI := Lib.hid I
  obtain ⟨hok, p, hp1, hp2⟩ := E.names i d hd
  have hle := hp1.le
  have e16 : (d.ref.enc ++ le4 (d.name.size : Int) ++ le4 (p : Int)).length = 16 := rfl
  rw [e16] at hle
  have HOK := Lib.hid hok; have HP1 := Lib.hid hp1; have HP2 := Lib.hid hp2
  have hll := E.len
  clear E I hok hp1 hp2 hd e16
  have B0 := Blk.new w 57 #[Value.int .u32 0, .int .u32 0, .string { data := #[] }]
  have F0 := (Fr.refl [] w).alloc (.cells #[Value.int .u32 0, .int .u32 0, .string { data := #[] }] 57)
  go_enter Tryz.func30, Tryz.ntmps30
  go_wp2_with fail
  generalize w.alloc (.cells #[Value.int .u32 0, .int .u32 0, .string { data := #[] }] 57) = w1 at B0 F0 ⊢
  have HB0 := Lib.hid B0; have HF0 := Lib.hid F0
  clear B0 F0
  refine (newReader_ef HE.out (HI.out.fr HF0.out)).mono ?_
  rintro e w2 ⟨r, rfl, hr, f2⟩
  have HR := Lib.hid hr; have HF2 := Lib.hid (HF0.out.trans f2); have HB2 := Lib.hid (f2.blk (by simp) HB0.out)
  clear hr f2 HF0 HB0
  go_wp2_with fail
  have q := nameAt_any HR.out (o 17) i (HE.out.oat 17 (by decide)) hle (by omega)
  refine (q.mono fun _ _ h => toFr0 h).mono ?_
  clear q
  rintro e w3 ⟨rfl, f3⟩
  have HR3 := Lib.hid (HR.out.fr f3); have HF3 := Lib.hid (HF2.out.trans f3); have HB3 := Lib.hid (f3.blk (by simp) HB2.out)
  clear f3
  have HAT : Hid (At l (o 17 + i * 16) (d.ref.enc ++ le4 d.name.size ++ le4 p)) := HP1
  generalize o 17 + i * 16 = at0 at HAT ⊢
  have HA1 : Hid (At l at0 (le4 d.ref.pkg)) := Lib.hid (by have h := HAT.out.left.left; exact h.left)
  have HA2 : Hid (At l (at0 + 4) (le4 d.ref.sym)) := Lib.hid (by have h := HAT.out.left.left; exact h.right)
  have HA3 : Hid (At l (at0 + 8) (le4 d.name.size ++ le4 p)) := Lib.hid (by have h := HAT.out; rw [List.append_assoc] at h; exact h.right)
  go_wp2_with fail
  have q := namRef_any g at0 d.ref.pkg d.ref.sym w3 HOK.out.1 HOK.out.2 (HA1.out.cs' HR3.out) (HA2.out.cs' HR3.out)
  refine q.mono ?_
  clear q
  rintro e w4 ⟨rfl, f4⟩
  have HR4 := Lib.hid (HR3.out.fr f4); have HF4 := Lib.hid (HF3.out.trans f4); have HB4 := Lib.hid (f4.blk (by simp) HB3.out)
  clear f4
  go_wp2_with fail
  have q := told_any d.ref.pkg d.ref.sym w4
  refine q.mono ?_
  clear q
  rintro e w5 ⟨rfl, f5⟩
  have HR5 := Lib.hid (HR4.out.fr f5); have HF5 := Lib.hid (HF4.out.trans f5); have HB5 := Lib.hid (f5.blk (by simp) HB4.out)
  clear f5
  go_wp2_with fail
  have q := namName_rd HR5.out at0 p d.name HA3.out HP2.out (by omega)
  refine q.mono ?_
  clear q
  rintro e w6 ⟨rfl, f6⟩
  have HR6 := Lib.hid (HR5.out.fr f6); have HF6 := Lib.hid (HF5.out.trans f6); have HB6 := Lib.hid (f6.blk (by simp) HB5.out)
  clear f6
  have hone := nam_one (⟨HOK.out, rfl⟩ : NamR d d.cells)
  have HONE := Lib.hid hone
  clear hone
  go_wp2_with (first | ((with_reducible refine selD 18 ?_); go_must (refine wpList_build _ rfl 57 _ _ rfl _ _ _ rfl rfl (build57 d.name d.ref.pkg d.ref.sym _) ?_)) | ((with_reducible refine selS 57 ?_); go_must (refine wpList_store_all _ rfl 57 _ _ rfl _ 57 _ d.cells rfl rfl (Tryz.sizeOf57 _) HB6.out rfl HONE.out ?_; intro wS hbS hfS; refine Hid.out ?_)))
  refine Lib.hid ?_
  have HC := Lib.hid hbS.all
  have HH := Lib.hid ((HF6.out.mono (S' := [w.heap.size]) (by simp)).trans hfS |>.mono (S' := []) (by simp))
  clear hbS hfS
  go_wp2_with fail
  exact bodyPost_ret (results_cell _ 4 57 rfl _ w.heap.size 0 rfl _ d.cells (Tryz.isAgg57 _) (Tryz.sizeOf57 _) (by have := HC.out; simpa using this)) rfl ⟨rfl, ⟨HOK.out, rfl⟩, HH.out⟩

set_option maxHeartbeats 1600000 in
set_option maxRecDepth 100000 in
theorem fileHash64_any (E : Ef F l os o) (I : In l w g c) (i : Nat) (x : Int) (hd : F.hashes64[i]? = some x) : Calls Tryz.prog 31 #[.slice (some ⟨g, 0, none⟩) l.length c, .int .u32 i] w fun e w' => e = .returned (.int .u64 x) ∧ u64ok x ∧ Fr [] w w' := by
  have HE := Lib.hid E; have HI := Lib.hid I
  obtain ⟨hok, hp1⟩ := E.h64 i x hd
  have HOK := Lib.hid hok; have HP1 := Lib.hid hp1
  have hll := E.len
  clear E I hok hp1 hd
  go_enter Tryz.func31, Tryz.ntmps31
  go_wp2_with fail
  refine (newReader_ef HE.out HI.out).mono ?_
  rintro e w2 ⟨r, rfl, hr, f2⟩
  have HR := Lib.hid hr; have HF2 := Lib.hid f2
  clear hr f2
  go_wp2_with fail
  refine (hash64At_any HR.out (o 9) i x HOK.out (HE.out.oat 9 (by decide)) HP1.out (by omega)).mono ?_
  rintro e w3 ⟨rfl, f3⟩
  have HF3 := Lib.hid (HF2.out.trans f3)
  clear f3
  go_wp2
  go_ret
  exact ⟨rfl, HOK.out, HF3.out⟩

set_option maxHeartbeats 1600000 in
set_option maxRecDepth 100000 in
theorem fileHash_any (E : Ef F l os o) (I : In l w g c) (i : Nat) (x : By) (hd : F.hashes[i]? = some x) : Calls Tryz.prog 32 #[.slice (some ⟨g, 0, none⟩) l.length c, .int .u32 i] w fun e w' => e = .returned (.agg (Lib.byteCells x).toArray) ∧ HashR x (Lib.byteCells x) ∧ Fr [] w w' := by
  have HE := Lib.hid E; have HI := Lib.hid I
  obtain ⟨hok, hp1⟩ := E.h128 i x hd
  have hle := hp1.le
  rw [hok] at hle
  have HOK := Lib.hid hok; have HP1 := Lib.hid hp1
  have HL : Hid ((Lib.byteCells x).length = 16) := Lib.hid (by rw [bc_len, hok])
  have hll := E.len
  clear E I hok hp1 hd
  have B0 := Blk.new w 97 #[Value.int .u8 0, .int .u8 0, .int .u8 0, .int .u8 0, .int .u8 0, .int .u8 0, .int .u8 0, .int .u8 0, .int .u8 0, .int .u8 0, .int .u8 0, .int .u8 0, .int .u8 0, .int .u8 0, .int .u8 0, .int .u8 0]
  have F0 := (Fr.refl [] w).alloc (.cells #[Value.int .u8 0, .int .u8 0, .int .u8 0, .int .u8 0, .int .u8 0, .int .u8 0, .int .u8 0, .int .u8 0, .int .u8 0, .int .u8 0, .int .u8 0, .int .u8 0, .int .u8 0, .int .u8 0, .int .u8 0, .int .u8 0] 97)
  go_enter Tryz.func32, Tryz.ntmps32
  go_wp2_with fail
  generalize w.alloc (.cells #[Value.int .u8 0, .int .u8 0, .int .u8 0, .int .u8 0, .int .u8 0, .int .u8 0, .int .u8 0, .int .u8 0, .int .u8 0, .int .u8 0, .int .u8 0, .int .u8 0, .int .u8 0, .int .u8 0, .int .u8 0, .int .u8 0] 97) = w1 at B0 F0 ⊢
  have HB0 := Lib.hid B0; have HF0 := Lib.hid F0
  clear B0 F0
  refine (newReader_ef HE.out (HI.out.fr HF0.out)).mono ?_
  rintro e w2 ⟨r, rfl, hr, f2⟩
  have HR := Lib.hid hr; have HF2 := Lib.hid (HF0.out.trans f2); have HB2 := Lib.hid (f2.blk (by simp) HB0.out)
  clear hr f2 HF0 HB0
  go_wp2_with fail
  have q := hashAt_any HR.out (o 10) i (HE.out.oat 10 (by decide)) hle (by omega)
  refine (q.mono fun _ _ h => toFr0 h).mono ?_
  clear q
  rintro e w3 ⟨rfl, f3⟩
  have HR3 := Lib.hid (HR.out.fr f3); have HF3 := Lib.hid (HF2.out.trans f3); have HB3 := Lib.hid (f3.blk (by simp) HB2.out)
  clear f3
  have HV := Lib.hid (HP1.out.cs' HR3.out)
  go_wp2_with (first | ((with_reducible refine selD 10 ?_); go_must (refine wpList_load_cs _ rfl 173 _ rfl g (o 10 + i * 16) (Lib.byteCells x) rfl (Tryz.isAgg173 _) (by rw [HL.out]; exact Tryz.sizeOf173 _) HV.out ?_)) | ((with_reducible refine selS 97 ?_); go_must (refine wpList_store_all _ rfl 97 _ _ rfl _ 97 _ (Lib.byteCells x) rfl rfl (by rw [HL.out]; exact Tryz.sizeOf97 _) HB3.out (by rw [HL.out]; rfl) (bc_one _) ?_; intro wS hbS hfS; refine Hid.out ?_)))
  refine Lib.hid ?_
  have HC := Lib.hid hbS.all
  have HH := Lib.hid ((HF3.out.mono (S' := [w.heap.size]) (by simp)).trans hfS |>.mono (S' := []) (by simp))
  clear hbS hfS
  go_wp2_with fail
  exact bodyPost_ret (results_cell _ 4 97 rfl _ w.heap.size 0 rfl _ (Lib.byteCells x) (Tryz.isAgg97 _) (by rw [HL.out]; exact Tryz.sizeOf97 _) (by have := HC.out; simpa using this)) rfl ⟨rfl, ⟨HOK.out, rfl⟩, HH.out⟩

set_option maxHeartbeats 1600000 in
set_option maxRecDepth 100000 in
theorem fileCounts_any (E : Ef F l os o) (I : In l w g c) : Calls Tryz.prog 24 #[.slice (some ⟨g, 0, none⟩) l.length c] w fun e w' => e = .returned (.agg #[.int .i64 F.own.length, .int .i64 F.short.length, .int .i64 F.hashed.length, .int .i64 F.other.length, .int .i64 F.refs.length, .int .i64 F.refFlags.length, .int .i64 F.refNames.length]) ∧ Fr [] w w' := by
  have HE := Lib.hid E; have HI := Lib.hid I
  have hll := E.len
  clear E I
  have B0 := Blk.new w 82 #[Value.int .i64 0, .int .i64 0, .int .i64 0, .int .i64 0, .int .i64 0, .int .i64 0, .int .i64 0]
  have F0 := (Fr.refl [] w).alloc (.cells #[Value.int .i64 0, .int .i64 0, .int .i64 0, .int .i64 0, .int .i64 0, .int .i64 0, .int .i64 0] 82)
  go_enter Tryz.func24, Tryz.ntmps24
  go_wp2_with fail
  generalize w.alloc (.cells #[Value.int .i64 0, .int .i64 0, .int .i64 0, .int .i64 0, .int .i64 0, .int .i64 0, .int .i64 0] 82) = w1 at B0 F0 ⊢
  have HB0 := Lib.hid B0; have HF0 := Lib.hid F0
  clear B0 F0
  refine (newReader_ef HE.out (HI.out.fr HF0.out)).mono ?_
  rintro e w2 ⟨r, rfl, hr, f2⟩
  have HR := Lib.hid hr; have HF2 := Lib.hid (HF0.out.trans f2); have HB2 := Lib.hid (f2.blk (by simp) HB0.out)
  clear hr f2 HF0 HB0
  go_wp2_with fail
  have q := nSym_any HR.out (o 4) (o 3) F.own.length (HE.out.oat 4 (by decide)) (HE.out.oat 3 (by decide)) (by have := HE.out.n3; omega) (by have h1 := HE.out.olen 4 (by decide); omega)
  refine (q.mono fun _ _ h => toFr h).mono ?_
  clear q
  rintro e w3 ⟨rfl, f3⟩
  have HR3 := Lib.hid (HR.out.fr f3); have HF3 := Lib.hid (HF2.out.trans f3); have HB3 := Lib.hid (f3.blk (by simp) HB2.out)
  clear f3
  go_wp2_with fail
  have q := nHash64_any HR3.out (o 5) (o 4) F.short.length (HE.out.oat 5 (by decide)) (HE.out.oat 4 (by decide)) (by have := HE.out.n4; omega) (by have h1 := HE.out.olen 5 (by decide); omega)
  refine (q.mono fun _ _ h => toFr h).mono ?_
  clear q
  rintro e w4 ⟨rfl, f4⟩
  have HR4 := Lib.hid (HR3.out.fr f4); have HF4 := Lib.hid (HF3.out.trans f4); have HB4 := Lib.hid (f4.blk (by simp) HB3.out)
  clear f4
  go_wp2_with fail
  have q := nHashed_any HR4.out (o 6) (o 5) F.hashed.length (HE.out.oat 6 (by decide)) (HE.out.oat 5 (by decide)) (by have := HE.out.n5; omega) (by have h1 := HE.out.olen 6 (by decide); omega)
  refine (q.mono fun _ _ h => toFr h).mono ?_
  clear q
  rintro e w5 ⟨rfl, f5⟩
  have HR5 := Lib.hid (HR4.out.fr f5); have HF5 := Lib.hid (HF4.out.trans f5); have HB5 := Lib.hid (f5.blk (by simp) HB4.out)
  clear f5
  go_wp2_with fail
  have q := nOther_any HR5.out (o 7) (o 6) F.other.length (HE.out.oat 7 (by decide)) (HE.out.oat 6 (by decide)) (by have := HE.out.n6; omega) (by have h1 := HE.out.olen 7 (by decide); omega)
  refine (q.mono fun _ _ h => toFr h).mono ?_
  clear q
  rintro e w6 ⟨rfl, f6⟩
  have HR6 := Lib.hid (HR5.out.fr f6); have HF6 := Lib.hid (HF5.out.trans f6); have HB6 := Lib.hid (f6.blk (by simp) HB5.out)
  clear f6
  go_wp2_with fail
  have q := nRefs_any HR6.out (o 8) (o 7) F.refs.length (HE.out.oat 8 (by decide)) (HE.out.oat 7 (by decide)) (by have := HE.out.n7; omega) (by have h1 := HE.out.olen 8 (by decide); omega)
  refine (q.mono fun _ _ h => toFr h).mono ?_
  clear q
  rintro e w7 ⟨rfl, f7⟩
  have HR7 := Lib.hid (HR6.out.fr f7); have HF7 := Lib.hid (HF6.out.trans f7); have HB7 := Lib.hid (f7.blk (by simp) HB6.out)
  clear f7
  go_wp2_with fail
  have q := nFlags_any HR7.out (o 9) (o 8) F.refFlags.length (HE.out.oat 9 (by decide)) (HE.out.oat 8 (by decide)) (by have := HE.out.n8; omega) (by have h1 := HE.out.olen 9 (by decide); omega)
  refine (q.mono fun _ _ h => toFr h).mono ?_
  clear q
  rintro e w8 ⟨rfl, f8⟩
  have HR8 := Lib.hid (HR7.out.fr f8); have HF8 := Lib.hid (HF7.out.trans f8); have HB8 := Lib.hid (f8.blk (by simp) HB7.out)
  clear f8
  go_wp2_with fail
  have q := nNames_any HR8.out (o 18) (o 17) F.refNames.length (HE.out.oat 18 (by decide)) (HE.out.oat 17 (by decide)) (by have := HE.out.n17; omega) (by have h1 := HE.out.olen 18 (by decide); omega)
  refine (q.mono fun _ _ h => toFr h).mono ?_
  clear q
  rintro e w9 ⟨rfl, f9⟩
  have HR9 := Lib.hid (HR8.out.fr f9); have HF9 := Lib.hid (HF8.out.trans f9); have HB9 := Lib.hid (f9.blk (by simp) HB8.out)
  clear f9
  go_wp2_with ((with_reducible refine selS 82 ?_); go_must (refine wpList_store_all _ rfl 82 _ _ rfl _ 82 _ [.int .i64 F.own.length, .int .i64 F.short.length, .int .i64 F.hashed.length, .int .i64 F.other.length, .int .i64 F.refs.length, .int .i64 F.refFlags.length, .int .i64 F.refNames.length] rfl rfl (Tryz.sizeOf82 _) HB9.out rfl (by intro v hv; simp only [List.mem_cons, List.not_mem_nil, or_false] at hv; rcases hv with rfl | rfl | rfl | rfl | rfl | rfl | rfl <;> rfl) ?_; intro wS hbS hfS; refine Hid.out ?_))
  refine Lib.hid ?_
  have HC := Lib.hid hbS.all
  have HH := Lib.hid ((HF9.out.mono (S' := [w.heap.size]) (by simp)).trans hfS |>.mono (S' := []) (by simp))
  clear hbS hfS
  go_wp2_with fail
  exact bodyPost_ret (results_cell _ 2 82 rfl _ w.heap.size 0 rfl _ [.int .i64 F.own.length, .int .i64 F.short.length, .int .i64 F.hashed.length, .int .i64 F.other.length, .int .i64 F.refs.length, .int .i64 F.refFlags.length, .int .i64 F.refNames.length] (Tryz.isAgg82 _) (Tryz.sizeOf82 _) (by have := HC.out; simpa using this)) rfl ⟨rfl, HH.out⟩
end

end Go.Proofs.YtnhafphgkipldaaGreatDoor

/- FileHead, FileData. Conditions: the bytes are those of a file. -/
namespace Go.Proofs.YtnhafphgkipldaaGreatDoor
open Go Go.RowKit

theorem results_ctct {P : Program} (fn : Func) (a t b a2 t2 b2 : Nat) (h : fn.results = #[.cell a t, .tmp b, .cell a2 t2, .tmp b2]) (tmps : Array Value) (bk bk2 : Nat) (u u2 : Value) (hx : tmps.getD a undef = .pointer (some ⟨bk, 0, none⟩)) (hu : tmps.getD b undef = u) (hx2 : tmps.getD a2 undef = .pointer (some ⟨bk2, 0, none⟩)) (hu2 : tmps.getD b2 undef = u2) (w : World) (xs xs2 : List Value)
    (hagg : (isAgg t).run P w = .ok true w) (hsz : (sizeOf t).run P w = .ok xs.length w) (hc : Cs w bk 0 xs) (hagg2 : (isAgg t2).run P w = .ok true w) (hsz2 : (sizeOf t2).run P w = .ok xs2.length w) (hc2 : Cs w bk2 0 xs2) :
    (results fn tmps).run P w = .ok (.tuple #[.agg xs.toArray, u, .agg xs2.toArray, u2]) w := by
  have hl := run_loadCells_list (P := P) w ⟨bk, 0, none⟩ xs hc.addr
  have hl2 := run_loadCells_list (P := P) w ⟨bk2, 0, none⟩ xs2 hc2.addr
  have hx' : tmps[a]?.getD undef = .pointer (some ⟨bk, 0, none⟩) := by rw [← hx]; simp
  have hu' : tmps[b]?.getD undef = u := by rw [← hu]; simp
  have hx2' : tmps[a2]?.getD undef = .pointer (some ⟨bk2, 0, none⟩) := by rw [← hx2]; simp
  have hu2' : tmps[b2]?.getD undef = u2 := by rw [← hu2]; simp
  simp [results, h, hx', hu', hx2', hu2', asAddr, loadVar, hagg, hsz, hl, hagg2, hsz2, hl2, Result.andThen]

section
variable {F : Fil} {l : By} {os : List Int} {o : Nat → Nat} {w : World} {g c : Nat}
set_option maxHeartbeats 1600000 in
set_option maxRecDepth 100000 in
theorem fileHead_any (E : Ef F l os o) (I : In l w g c) : Calls Tryz.prog 22 #[.slice (some ⟨g, 0, none⟩) l.length c] w fun e w' => ∃ v u, e = .returned (.tuple #[.agg (Lib.byteCells F.fp).toArray, .int .u32 F.flags, v, u]) ∧ Fr [] w w' := by
  have HE := Lib.hid E; have HI := Lib.hid I
  clear E I
  obtain ⟨B0, B1, F0⟩ := two_new w 22 77 #[Value.int .u8 0, .int .u8 0, .int .u8 0, .int .u8 0, .int .u8 0, .int .u8 0, .int .u8 0, .int .u8 0] #[Value.bool false, .bool false, .bool false, .bool false] []
  go_enter Tryz.func22, Tryz.ntmps22
  go_wp2_with fail
  generalize (w.alloc (.cells #[Value.int .u8 0, .int .u8 0, .int .u8 0, .int .u8 0, .int .u8 0, .int .u8 0, .int .u8 0, .int .u8 0] 22)).alloc (.cells #[Value.bool false, .bool false, .bool false, .bool false] 77) = w1 at B0 B1 F0 ⊢
  have HF0 := Lib.hid F0; have HB0 := Lib.hid B0; have HC0 := Lib.hid B1
  clear F0 B0 B1
  refine (newReader_ef HE.out (HI.out.fr HF0.out)).mono ?_
  rintro e w2 ⟨r, rfl, hr, f2⟩
  have HR := Lib.hid hr; have HF2 := Lib.hid (HF0.out.trans f2); have HB2 := Lib.hid (f2.blk (by simp) HB0.out); have HC2 := Lib.hid (f2.blk (by simp) HC0.out)
  clear hr f2 HF0 HB0 HC0
  go_wp2_with fail
  refine (print_any HR.out).mono ?_
  rintro e w3 ⟨rfl, f3⟩
  have HR3 := Lib.hid (HR.out.fr f3); have HF3 := Lib.hid (HF2.out.trans f3); have HB3 := Lib.hid (f3.blk (by simp) HB2.out); have HC3 := Lib.hid (f3.blk (by simp) HC2.out)
  clear f3 HR HF2 HB2 HC2
  go_wp2_with fail
  refine (rflags_any HR3.out).mono ?_
  rintro e w4 ⟨rfl, f4⟩
  have HR4 := Lib.hid (HR3.out.fr f4); have HF4 := Lib.hid (HF3.out.trans f4); have HB4 := Lib.hid (f4.blk (by simp) HB3.out); have HC4 := Lib.hid (f4.blk (by simp) HC3.out)
  clear f4 HR3 HF3 HB3 HC3
  go_wp2_with fail
  refine (shared_any HR4.out).mono ?_
  rintro e w5 ⟨b1, rfl, f5⟩
  have HR5 := Lib.hid (HR4.out.fr f5); have HF5 := Lib.hid (HF4.out.trans f5); have HB5 := Lib.hid (f5.blk (by simp) HB4.out); have HC5 := Lib.hid (f5.blk (by simp) HC4.out)
  clear f5 HR4 HF4 HB4 HC4
  go_wp2_with fail
  refine (fromAsm_any HR5.out).mono ?_
  rintro e w6 ⟨b2, rfl, f6⟩
  have HR6 := Lib.hid (HR5.out.fr f6); have HF6 := Lib.hid (HF5.out.trans f6); have HB6 := Lib.hid (f6.blk (by simp) HB5.out); have HC6 := Lib.hid (f6.blk (by simp) HC5.out)
  clear f6 HR5 HF5 HB5 HC5
  go_wp2_with fail
  refine (unlink_any HR6.out).mono ?_
  rintro e w7 ⟨b3, rfl, f7⟩
  have HR7 := Lib.hid (HR6.out.fr f7); have HF7 := Lib.hid (HF6.out.trans f7); have HB7 := Lib.hid (f7.blk (by simp) HB6.out); have HC7 := Lib.hid (f7.blk (by simp) HC6.out)
  clear f7 HR6 HF6 HB6 HC6
  go_wp2_with fail
  refine (std_any HR7.out).mono ?_
  rintro e w8 ⟨b4, rfl, f8⟩
  have HF8 := Lib.hid (HF7.out.trans f8); have HB8 := Lib.hid (f8.blk (by simp) HB7.out); have HC8 := Lib.hid (f8.blk (by simp) HC7.out)
  clear f8 HR7 HF7 HB7 HC7
  have HL : Hid ((Lib.byteCells F.fp).length = 8) := Lib.hid (by rw [bc_len, HE.out.fpl])
  go_wp2_with ((with_reducible refine selS 22 ?_); go_must (refine wpList_store_all _ rfl 22 _ _ rfl _ 22 _ (Lib.byteCells F.fp) rfl rfl (by rw [HL.out]; exact Tryz.sizeOf22 _) HB8.out (by rw [HL.out]; rfl) (bc_one _) ?_; intro w9 hb9 hf9; refine Hid.out ?_))
  refine Lib.hid ?_
  have HB9 := Lib.hid hb9; have HC9 := Lib.hid (hf9.blk (by simp) HC8.out)
  have HF9 := Lib.hid ((HF8.out.mono (S' := [w.heap.size]) (by simp)).trans hf9 |>.mono (S' := []) (by simp))
  clear hb9 hf9 HB8 HC8 HF8
  go_wp2_with ((with_reducible refine selS 77 ?_); go_must (refine wpList_store_all _ rfl 77 _ _ rfl _ 77 _ [.bool b1, .bool b2, .bool b3, .bool b4] rfl rfl (Tryz.sizeOf77 _) HC9.out rfl (by intro v hv; simp only [List.mem_cons, List.not_mem_nil, or_false] at hv; rcases hv with rfl | rfl | rfl | rfl <;> rfl) ?_; intro wA hbA hfA; refine Hid.out ?_))
  refine Lib.hid ?_
  have HBA := Lib.hid ((hfA.blk (by simp) HB9.out).all); have HCA := Lib.hid hbA.all
  have HFA := Lib.hid ((HF9.out.mono (S' := [w.heap.size + 1]) (by simp)).trans hfA |>.mono (S' := []) (by simp))
  clear hbA hfA HB9 HC9 HF9
  go_wp2_with fail
  exact bodyPost_ret (results_ctct _ 2 22 3 4 77 5 rfl _ w.heap.size (w.heap.size + 1) _ _ rfl rfl rfl rfl _ (Lib.byteCells F.fp) [.bool b1, .bool b2, .bool b3, .bool b4] (Tryz.isAgg22 _) (by rw [HL.out]; exact Tryz.sizeOf22 _) (by have := HBA.out; simpa using this) (Tryz.isAgg77 _) (Tryz.sizeOf77 _) (by have := HCA.out; simpa using this)) rfl (by first | exact ⟨_, _, rfl, HFA.out⟩ | exact ⟨⟨_, _, rfl⟩, HFA.out⟩)

set_option maxHeartbeats 1600000 in
set_option maxRecDepth 100000 in
theorem fileData_any (E : Ef F l os o) (I : In l w g c) (i : Nat) (d : Def) (hd : (defs F)[i]? = some d) : Calls Tryz.prog 26 #[.slice (some ⟨g, 0, none⟩) l.length c, .int .u32 i] w fun e w' => ∃ v, e = .returned (.tuple #[v, .string d.data, .int .i64 d.data.size]) ∧ Fr [] w w' := by
  have HE := Lib.hid E; have HI := Lib.hid I
  obtain ⟨x, hx1, hx2⟩ := E.data i d hd
  have hds := (E.small.defs d (List.mem_of_getElem? hd)).2.1
  have HX1 := Lib.hid hx1; have HX2 := Lib.hid hx2
  have hxl := hx2.le
  rw [str_len] at hxl
  have hll := E.len
  clear E I hx1 hx2 hd
  go_enter Tryz.func26, Tryz.ntmps26
  go_wp2_with fail
  refine (newReader_ef HE.out HI.out).mono ?_
  rintro e w2 ⟨r, rfl, hr, f2⟩
  have O0 := World.ownsRow_lit (base := w.heap.size) (size := 1) (e := 5) w2 #[] 0 f2.size (by decide) rfl
  have F0 : Fr [] w2 (w2.alloc (.cells #[] 5)) := (Fr.refl [] w2).alloc _
  have HR := Lib.hid (hr.fr F0); have HF2 := Lib.hid (f2.trans F0); have HO2 := Lib.hid O0
  clear hr f2 F0 O0
  go_wp2_with fail
  generalize w2.alloc (.cells #[] 5) = w3 at HR HF2 HO2 ⊢
  generalize w2.heap.size = b0 at HO2 ⊢
  refine (data_any HR.out (o 13) (o 16) i x d.data (HE.out.oat 13 (by decide)) (HE.out.oat 16 (by decide)) HX1.out HX2.out (by omega)).mono ?_
  rintro e w4 ⟨v, rfl, hv, f4⟩
  have HR4 := Lib.hid (HR.out.fr f4); have HF4 := Lib.hid (HF2.out.trans f4); have HO4 := Lib.hid (own_fr HO2.out f4)
  clear f4 HR HF2 HO2
  have HV := Lib.hid hv
  clear hv
  rcases HV.out with rfl | ⟨o1, n1, c1, rfl, h1, rfl⟩
  · clear HV
    go_wp2_with ((with_reducible refine selD 14 ?_); go_must (refine wpList_append_own_none rfl _ _ 35 rfl w.heap.size 5 _ 1 (by rfl) (by rfl) _ 0 _ rfl HO4.out rfl ?_; refine Hid.out ?_))
    refine Lib.hid ?_
    go_wp2_with fail
    refine (dataString_any HR4.out (o 13) (o 16) i x d.data (HE.out.oat 13 (by decide)) (HE.out.oat 16 (by decide)) HX1.out HX2.out (by omega)).mono ?_
    rintro e w6 ⟨rfl, f6⟩
    have HR6 := Lib.hid (HR4.out.fr f6); have HF6 := Lib.hid (HF4.out.trans f6)
    clear f6
    go_wp2_with fail
    have q := dataSize_any HR6.out (o 13) i x (x + d.data.size) (HE.out.oat 13 (by decide)) HX1.out (by omega) (by omega) (by omega)
    rw [show x + d.data.size - x = d.data.size by omega] at q
    refine q.mono ?_
    clear q
    rintro e w7 ⟨rfl, f7⟩
    have HF7 := Lib.hid (HF6.out.trans f7)
    clear f7
    go_wp2
    go_ret3
    first | exact ⟨_, rfl, HF7.out⟩ | exact ⟨⟨_, rfl⟩, HF7.out⟩
  · have HN : Hid (Cs w4 g o1 (Lib.byteCells ((l.drop o1).take d.data.size))) := Lib.hid (by
      refine At.cs ?_ HR4.out.cs
      refine ⟨l.take o1, l.drop (o1 + d.data.size), ?_, by rw [List.length_take]; omega⟩
      rw [List.append_assoc, ← List.drop_drop, List.take_append_drop, List.take_append_drop])
    have HLn : Hid ((Lib.byteCells ((l.drop o1).take d.data.size)).length = d.data.size * 1) := Lib.hid (by rw [bc_len, List.length_take, List.length_drop]; omega)
    clear HV
    go_wp2_with ((with_reducible refine selD 14 ?_); go_must (refine wpList_append_own _ rfl _ _ 35 rfl w.heap.size 5 _ _ 1 _ (by rfl) (by rfl) (by rfl) (by rfl) rfl (by rfl) (by decide) _ 0 _ rfl HO4.out ⟨g, o1, none⟩ d.data.size c1 (Lib.byteCells ((l.drop o1).take d.data.size)) rfl HLn.out HN.out.addr (bc_one _) (by simp only [maxLen]; omega) (Nat.le_trans (Nat.mul_le_mul (show 0 + d.data.size ≤ 200 by omega) (Nat.le_refl _)) (by decide)) HF4.out.size ?_; intro v' w5 ho5 hg5 _; refine Hid.out ?_))
    refine Lib.hid ?_
    have HF5 := Lib.hid (HF4.out.grownOwn HO4.out (Nat.le_refl _) hg5)
    have HR5 := Lib.hid (HR4.out.grown (HI.out.fr HF5.out) HO4.out hg5 (by decide))
    clear ho5 hg5
    go_wp2_with fail
    refine (dataString_any HR5.out (o 13) (o 16) i x d.data (HE.out.oat 13 (by decide)) (HE.out.oat 16 (by decide)) HX1.out HX2.out (by omega)).mono ?_
    rintro e w6 ⟨rfl, f6⟩
    have HR6 := Lib.hid (HR5.out.fr f6); have HF6 := Lib.hid (HF5.out.trans f6)
    clear f6
    go_wp2_with fail
    have q := dataSize_any HR6.out (o 13) i x (x + d.data.size) (HE.out.oat 13 (by decide)) HX1.out (by omega) (by omega) (by omega)
    rw [show x + d.data.size - x = d.data.size by omega] at q
    refine q.mono ?_
    clear q
    rintro e w7 ⟨rfl, f7⟩
    have HF7 := Lib.hid (HF6.out.trans f7)
    clear f7
    go_wp2
    go_ret3
    first | exact ⟨_, rfl, HF7.out⟩ | exact ⟨⟨_, rfl⟩, HF7.out⟩
end

end Go.Proofs.YtnhafphgkipldaaGreatDoor
