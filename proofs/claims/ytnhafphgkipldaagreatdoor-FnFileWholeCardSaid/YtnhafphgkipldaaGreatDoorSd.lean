/- spec.sameDefined on two slices that read as one list of symbols: true. Conditions: the lists have at most 1000 elements. -/
import Derived.Test.YtnhafphgkipldaaGreatDoorSm
import Derived.Test.YtnhafphgkipldaaGreatDoorTv
import Derived.Test.YtnhafphgkipldaaGreatDoorDl
namespace Go.Proofs.YtnhafphgkipldaaGreatDoor
open Go Go.RowKit

def DefCs (x : Def) (vr va : Value) : List Value := .string x.name :: x.sy.cells ++ [vr, va, .string x.data]
theorem DefCs_one {w : World} {x : Def} {vr va : Value} (h1 : Sl 6 RelR w vr x.rels) (h2 : Sl 3 AuxR w va x.auxs) : ∀ u ∈ DefCs x vr va, u.oneCell' = true := by
  intro u hu
  simp only [DefCs, Sy.cells, List.mem_cons, List.mem_append, List.not_mem_nil, or_false] at hu
  rcases hu with (rfl | rfl | rfl | rfl | rfl | rfl | rfl) | rfl | rfl | rfl <;> first | rfl | exact h1.one | exact h2.one
theorem cells10 {z : World} {A : Nat} {x : Def} {vr va : Value} (h : Blk z A 51 (DefCs x vr va).toArray) : z.cell? ⟨A, 0, none⟩ = some (.string x.name) ∧ z.cell? ⟨A, 1, none⟩ = some (.int .u16 x.sy.abi) ∧ z.cell? ⟨A, 2, none⟩ = some (.int .u8 x.sy.kind) ∧ z.cell? ⟨A, 3, none⟩ = some (.int .u8 x.sy.flag) ∧ z.cell? ⟨A, 4, none⟩ = some (.int .u8 x.sy.flag2) ∧ z.cell? ⟨A, 5, none⟩ = some (.int .u32 x.sy.size) ∧ z.cell? ⟨A, 6, none⟩ = some (.int .u32 x.sy.align) ∧ z.cell? ⟨A, 7, none⟩ = some vr ∧ z.cell? ⟨A, 8, none⟩ = some va ∧ z.cell? ⟨A, 9, none⟩ = some (.string x.data) :=
  ⟨by rw [h.cell]; rfl, by rw [h.cell]; rfl, by rw [h.cell]; rfl, by rw [h.cell]; rfl, by rw [h.cell]; rfl, by rw [h.cell]; rfl, by rw [h.cell]; rfl, by rw [h.cell]; rfl, by rw [h.cell]; rfl, by rw [h.cell]; rfl⟩
theorem Sl.frw {α : Type} {sz : Nat} {R : α → List Value → Prop} {w w' : World} {v : Value} {l : List α} (h : Sl sz R w v l) (f : Fr [] w w') (hsz : 0 < sz) : Sl sz R w' v l := h.old hsz f.below (fun _ _ h => h)
set_option maxHeartbeats 3200000 in
set_option maxRecDepth 100000 in
theorem same33_any (l : List Def) (v v' : Value) (w : World) (hn : l.length ≤ 1000) (hs : ∀ d ∈ l, d.rels.length ≤ 1000 ∧ d.auxs.length ≤ 1000) (h : Sl 10 (DefR w) w v l) (h' : Sl 10 (DefR w) w v' l) : Calls Tryz.prog 33 #[v, v'] w fun e w' => e = .returned (.bool true) ∧ Fr [] w w' := by
  obtain ⟨b, off, c, A, rfl, hA, hE⟩ := h.elim
  obtain ⟨b', off', c', A', rfl, hA', hE'⟩ := h'.elim
  have HA := Lib.hid hA; have HE := Lib.hid hE; have HA' := Lib.hid hA'; have HE' := Lib.hid hE'; have HS := Lib.hid hs
  clear hA hE hA' hE' h h' hs
  go_enter Tryz.func33, Tryz.ntmps33
  go_wp2_with fail
  go_loopw [15] (fun c0 y => ∃ k : Nat, k ≤ l.length ∧ c0 = .int .i64 k ∧ Fr [] w y) (fun c _ => l.length - (intOf c).toNat)
  case atStart => exact ⟨0, Nat.zero_le _, rfl, Fr.refl _ _⟩
  case round =>
    obtain ⟨k, hk, rfl, hf⟩ := hrel
    have HF := Lib.hid hf
    clear hf
    by_cases hlt : k < l.length
    · obtain ⟨x, hx⟩ : ∃ x, l[k]? = some x := ⟨_, List.getElem?_eq_getElem hlt⟩
      have hne : l ≠ [] := by rintro rfl; simp at hlt
      obtain rfl := HA.out hne
      obtain rfl := HA'.out hne
      obtain ⟨cs, hR, hl, hc⟩ := HE.out k x hx
      obtain ⟨cs', hR', hl', hc'⟩ := HE'.out k x hx
      obtain ⟨ho, vr, va, hcs, s1, s2⟩ := hR
      obtain ⟨_, vr', va', hcs', s1', s2'⟩ := hR'
      obtain rfl : cs = DefCs x vr va := hcs
      obtain rfl : cs' = DefCs x vr' va' := hcs'
      have HL := Lib.hid hl; have HL' := Lib.hid hl'
      have HC := Lib.hid hc; have HC' := Lib.hid hc'
      have S1 := Lib.hid s1; have S2 := Lib.hid s2; have S1' := Lib.hid s1'; have S2' := Lib.hid s2'
      have HX := Lib.hid (HS.out x (List.mem_of_getElem? hx))
      have HO1 := Lib.hid (DefCs_one s1 s2); have HO1' := Lib.hid (DefCs_one s1' s2')
      have h0k : (0 : Int) ≤ (k : Int) := by omega
      have hkl : (k : Int) < (l.length : Int) := by omega
      clear hx hne hl hl' hc hc' s1 s2 s1' s2' ho
      go_wp2_with fail
      refine wp_region_q [0, 1, 2, 3, 4, 5, 6, 7] 4 #[true, true, true, true, true, true, true, true, false, false, false, false] (fun z => Fr [] w z) (by kernel_rfl) (by kernel_rfl) rfl (by kernel_rfl) HF.out.drew ?_
      refine q_move _ (.slice (some ⟨b, off, none⟩) l.length c) (by rfl) rfl rfl rfl ?_
      refine q_move _ (.int .i64 k) (by rfl) rfl rfl rfl ?_
      simp only [Act.put, List.setIfInBounds_toArray, List.set_cons_zero, List.set_cons_succ]
      refine q_q (.pointer (some ⟨b, off + k * 10, none⟩)) (by rfl) rfl (by intro z _; go_simp) ?_
      simp only [Act.put, List.setIfInBounds_toArray, List.set_cons_zero, List.set_cons_succ]
      refine q_load 51 _ b (off + k * 10) (DefCs x vr va) (by rfl) rfl rfl rfl (fun _ => by kernel_rfl) (by intro z; exact Tryz.sizeOf51 z) (fun z hz => hz.cs (by simp) HC.out) ?_
      simp only [Act.put, List.setIfInBounds_toArray, List.set_cons_zero, List.set_cons_succ]
      refine q_move _ (.slice (some ⟨b', off', none⟩) l.length c') (by rfl) rfl rfl rfl ?_
      refine q_move _ (.int .i64 k) (by rfl) rfl rfl rfl ?_
      simp only [Act.put, List.setIfInBounds_toArray, List.set_cons_zero, List.set_cons_succ]
      refine q_q (.pointer (some ⟨b', off' + k * 10, none⟩)) (by rfl) rfl (by intro z _; go_simp) ?_
      simp only [Act.put, List.setIfInBounds_toArray, List.set_cons_zero, List.set_cons_succ]
      refine q_load 51 _ b' (off' + k * 10) (DefCs x vr' va') (by rfl) rfl rfl rfl (fun _ => by kernel_rfl) (by intro z; exact Tryz.sizeOf51 z) (fun z hz => hz.cs (by simp) HC'.out) ?_
      simp only [Act.put, List.setIfInBounds_toArray, List.set_cons_zero, List.set_cons_succ]
      refine q_nil ?_
      refine two_vars (by rfl) (by rfl) (by rfl) (by rfl) rfl rfl rfl rfl rfl rfl rfl rfl rfl rfl rfl rfl (by kernel_rfl) (by kernel_rfl) (by kernel_rfl) (by kernel_rfl) (by kernel_rfl) (by kernel_rfl) (by kernel_rfl) (by kernel_rfl) (by kernel_rfl)
        (z := .agg #[.string ⟨#[]⟩, .int .u16 0, .int .u8 0, .int .u8 0, .int .u8 0, .int .u32 0, .int .u32 0, .slice none 0 0, .slice none 0 0, .string ⟨#[]⟩]) (zs := #[.string ⟨#[]⟩, .int .u16 0, .int .u8 0, .int .u8 0, .int .u8 0, .int .u32 0, .int .u32 0, .slice none 0 0, .slice none 0 0, .string ⟨#[]⟩]) (xs := DefCs x vr va) (ys := DefCs x vr' va') (fun _ => by kernel_rfl) rfl (fun z => Tryz.sizeOf51 z) rfl rfl rfl HO1.out HO1'.out (by simp) rfl rfl (fun z hz => HF.out.drew.trans hz) ?_
      intro A B z bA bB fz
      have HBA := Lib.hid bA; have HBB := Lib.hid bB
      have HF2 := Lib.hid (HF.out.drew.trans fz)
      clear bA bB fz HF HC HC'
      simp only [Act.put, List.setIfInBounds_toArray, List.set_cons_zero, List.set_cons_succ]
      obtain ⟨a0, a1, a2, a3, a4, a5, a6, a7, a8, a9⟩ := cells10 HBA.out
      obtain ⟨e0, e1, e2, e3, e4, e5, e6, e7, e8, e9⟩ := cells10 HBB.out
      have q47 := fun (d : Nat) (w : World) => self47 d x.sy w
      simp only [Sy.cells] at q47
      have u47 : Tryz.prog.eqGuardType Tryz.prog.depth 47 = false := by kernel_rfl
      go_wp2_with fail
      refine (same102_any x.rels vr vr' _ HX.out.1 (S1.out.frw HF2.out (by decide)) (S1'.out.frw HF2.out (by decide))).mono ?_
      rintro e z2 ⟨rfl, f2⟩
      have HBA2 := Lib.hid (f2.blk (by simp) HBA.out); have HBB2 := Lib.hid (f2.blk (by simp) HBB.out); have HF3 := Lib.hid (HF2.out.trans f2)
      clear f2 a0 a1 a2 a3 a4 a5 a6 a7 a8 a9 e0 e1 e2 e3 e4 e5 e6 e7 e8 e9 q47 u47 HBA HBB HF2
      obtain ⟨a0, a1, a2, a3, a4, a5, a6, a7, a8, a9⟩ := cells10 HBA2.out
      obtain ⟨e0, e1, e2, e3, e4, e5, e6, e7, e8, e9⟩ := cells10 HBB2.out
      go_wp2_with fail
      refine (same103_any x.auxs va va' _ HX.out.2 (S2.out.frw HF3.out (by decide)) (S2'.out.frw HF3.out (by decide))).mono ?_
      rintro e z3 ⟨rfl, f3⟩
      have HF4 := Lib.hid (HF3.out.trans f3)
      clear f3 a0 a1 a2 a3 a4 a5 a6 a7 a8 a9 e0 e1 e2 e3 e4 e5 e6 e7 e8 e9 HBA2 HBB2 HF3
      go_wp2_with fail
      go_roundw
      case rel => exact ⟨k + 1, by omega, by go_num, HF4.out⟩
      case measure => simp [intOf]; omega
    · go_wp2
      go_ret
      exact ⟨rfl, HF.out⟩

end Go.Proofs.YtnhafphgkipldaaGreatDoor

/- spec.SameFile on two values of one file: true. Conditions: the file is within the bounds of the statement. -/
namespace Go.Proofs.YtnhafphgkipldaaGreatDoor
open Go Go.RowKit

theorem FilS.fr {w w' : World} {F : Fil} {v0 v1 v2 v3 v4 v5 v6 v7 v8 v9 v10 v11 : Value} (k : FilS w F v0 v1 v2 v3 v4 v5 v6 v7 v8 v9 v10 v11) (f : Fr [] w w') : FilS w' F v0 v1 v2 v3 v4 v5 v6 v7 v8 v9 v10 v11 :=
  ⟨k.flo, k.s0.old (by decide) f.below (fun _ _ h => h), k.s1.old (by decide) f.below (fun _ _ h => h), k.s2.old (by decide) f.below (fun _ _ h => h),
    k.s3.old (by decide) f.below (DefR.old f.below), k.s4.old (by decide) f.below (DefR.old f.below), k.s5.old (by decide) f.below (DefR.old f.below), k.s6.old (by decide) f.below (DefR.old f.below),
    k.s7.old (by decide) f.below (fun _ _ h => h), k.s8.old (by decide) f.below (fun _ _ h => h), k.s9.old (by decide) f.below (fun _ _ h => h), k.s10.old (by decide) f.below (fun _ _ h => h), k.s11.old (by decide) f.below (fun _ _ h => h)⟩
/-- Two boxes that hold two values of one file. -/
structure Two (F : Fil) (w : World) (A B : Nat) (cs ds : List Value) (v0 v1 v2 v3 v4 v5 v6 v7 v8 v9 v10 v11 u0 u1 u2 u3 u4 u5 u6 u7 u8 u9 u10 u11 : Value) (z : World) : Prop where
  fr : Fr [] w z
  a : Blk z A 33 cs.toArray
  b : Blk z B 33 ds.toArray
  fs : FilS z F v0 v1 v2 v3 v4 v5 v6 v7 v8 v9 v10 v11
  gs : FilS z F u0 u1 u2 u3 u4 u5 u6 u7 u8 u9 u10 u11
theorem Two.fr0 {F : Fil} {w : World} {A B : Nat} {cs ds : List Value} {v0 v1 v2 v3 v4 v5 v6 v7 v8 v9 v10 v11 u0 u1 u2 u3 u4 u5 u6 u7 u8 u9 u10 u11 : Value} {z z' : World} (h : Two F w A B cs ds v0 v1 v2 v3 v4 v5 v6 v7 v8 v9 v10 v11 u0 u1 u2 u3 u4 u5 u6 u7 u8 u9 u10 u11 z) (f : Fr [] z z') : Two F w A B cs ds v0 v1 v2 v3 v4 v5 v6 v7 v8 v9 v10 v11 u0 u1 u2 u3 u4 u5 u6 u7 u8 u9 u10 u11 z' :=
  ⟨h.fr.trans f, f.blk (by simp) h.a, f.blk (by simp) h.b, h.fs.fr f, h.gs.fr f⟩
theorem Two.cell {F : Fil} {w : World} {A B : Nat} {cs ds : List Value} {v0 v1 v2 v3 v4 v5 v6 v7 v8 v9 v10 v11 u0 u1 u2 u3 u4 u5 u6 u7 u8 u9 u10 u11 : Value} {z : World} (h : Two F w A B cs ds v0 v1 v2 v3 v4 v5 v6 v7 v8 v9 v10 v11 u0 u1 u2 u3 u4 u5 u6 u7 u8 u9 u10 u11 z) (i : Nat) (v u : Value) (hv : cs[i]? = some v) (hu : ds[i]? = some u) : z.cell? ⟨A, i, none⟩ = some v ∧ z.cell? ⟨B, i, none⟩ = some u :=
  ⟨by rw [h.a.cell]; simpa using hv, by rw [h.b.cell]; simpa using hu⟩
set_option maxHeartbeats 3200000 in
set_option maxRecDepth 100000 in
theorem sameFile_any (F : Fil) (v v' : Value) (w : World) (hS : Small F) (h : FilR w v F) (h' : FilR w v' F) : Calls Tryz.prog 8 #[v, v'] w fun e w' => e = .returned (.bool true) ∧ Fr [] w w' := by
  obtain ⟨cs, v0, v1, v2, v3, v4, v5, v6, v7, v8, v9, v10, v11, rfl, hc, hk⟩ := h
  obtain ⟨ds, u0, u1, u2, u3, u4, u5, u6, u7, u8, u9, u10, u11, rfl, hd, hm⟩ := h'
  have hn : (F.own ++ F.short ++ F.hashed ++ F.other).length ≤ 60 := hS.nDefs
  simp only [List.length_append] at hn
  have m1 : F.own.length ≤ 1000 := by omega
  have m2 : F.short.length ≤ 1000 := by omega
  have m3 : F.hashed.length ≤ 1000 := by omega
  have m4 : F.other.length ≤ 1000 := by omega
  have M : Hid (F.own.length ≤ 1000 ∧ F.short.length ≤ 1000 ∧ F.hashed.length ≤ 1000 ∧ F.other.length ≤ 1000) := Lib.hid ⟨m1, m2, m3, m4⟩
  have M5 : Hid (F.hashes64.length ≤ 1000) := Lib.hid (by rw [hS.h64]; exact m2)
  have M6 : Hid (F.hashes.length ≤ 1000) := Lib.hid (by rw [hS.h128]; exact m3)
  have MD : Hid (∀ d ∈ F.own ++ F.short ++ F.hashed ++ F.other, d.rels.length ≤ 1000 ∧ d.auxs.length ≤ 1000) := Lib.hid (fun d hd => by have := hS.defs d hd; omega)
  clear hn m1 m2 m3 m4
  have HS := Lib.hid hS; have HC := Lib.hid hc; have HD := Lib.hid hd
  have f0 : Fr [] w ((w.alloc (.cells cs.toArray 33)).alloc (.cells ds.toArray 33)) := ((Fr.refl [] w).alloc _).alloc _
  have b0 : Blk ((w.alloc (.cells cs.toArray 33)).alloc (.cells ds.toArray 33)) w.heap.size 33 cs.toArray := (Blk.new w 33 _).alloc _
  have b1 : Blk ((w.alloc (.cells cs.toArray 33)).alloc (.cells ds.toArray 33)) (w.heap.size + 1) 33 ds.toArray := by have := Blk.new (w.alloc (.cells cs.toArray 33)) 33 ds.toArray; simpa using this
  have T0 : Hid (Two F w w.heap.size (w.heap.size + 1) cs ds v0 v1 v2 v3 v4 v5 v6 v7 v8 v9 v10 v11 u0 u1 u2 u3 u4 u5 u6 u7 u8 u9 u10 u11 ((w.alloc (.cells cs.toArray 33)).alloc (.cells ds.toArray 33))) := Lib.hid ⟨f0, b0, b1, hk.fr f0, hm.fr f0⟩
  clear hS hc hd hk hm f0 b0 b1
  go_enter Tryz.func8, Tryz.ntmps8
  go_wp2_with ((with_reducible refine selD 7 ?_); refine Hid.out ?_)
  refine Lib.hid ?_
  generalize (w.alloc (.cells cs.toArray 33)).alloc (.cells ds.toArray 33) = z0 at T0 ⊢
  generalize w.heap.size + 1 = gB at T0 ⊢
  generalize hgA : w.heap.size = gA at T0 ⊢
  clear hgA
  obtain ⟨a12, b12⟩ := T0.out.cell 12 _ _ HC.out.e3 HD.out.e3
  go_wp2_with fail
  refine (same33_any F.own v3 u3 _ M.out.1 (fun d hd => MD.out d (by simp [hd])) T0.out.fs.s3 T0.out.gs.s3).mono ?_
  rintro e z1 ⟨rfl, f1⟩
  have T1 := Lib.hid (T0.out.fr0 f1)
  clear f1 T0 a12 b12
  obtain ⟨a13, b13⟩ := T1.out.cell 13 _ _ HC.out.e4 HD.out.e4
  go_wp2_with fail
  refine (same33_any F.short v4 u4 _ M.out.2.1 (fun d hd => MD.out d (by simp [hd])) T1.out.fs.s4 T1.out.gs.s4).mono ?_
  rintro e z2 ⟨rfl, f2⟩
  have T2 := Lib.hid (T1.out.fr0 f2)
  clear f2 T1 a13 b13
  obtain ⟨a14, b14⟩ := T2.out.cell 14 _ _ HC.out.e5 HD.out.e5
  go_wp2_with fail
  refine (same33_any F.hashed v5 u5 _ M.out.2.2.1 (fun d hd => MD.out d (by simp [hd])) T2.out.fs.s5 T2.out.gs.s5).mono ?_
  rintro e z3 ⟨rfl, f3⟩
  have T3 := Lib.hid (T2.out.fr0 f3)
  clear f3 T2 a14 b14
  obtain ⟨a15, b15⟩ := T3.out.cell 15 _ _ HC.out.e6 HD.out.e6
  go_wp2_with fail
  refine (same33_any F.other v6 u6 _ M.out.2.2.2 (fun d hd => MD.out d (by simp [hd])) T3.out.fs.s6 T3.out.gs.s6).mono ?_
  rintro e z4 ⟨rfl, f4⟩
  have T4 := Lib.hid (T3.out.fr0 f4)
  clear f4 T3 a15 b15
  obtain ⟨a9, b9⟩ := T4.out.cell 9 _ _ HC.out.e0 HD.out.e0
  obtain ⟨a8, b8⟩ := T4.out.cell 8 _ _ HC.out.fl HD.out.fl
  have CA : Hid (Cs z4 gA 0 (Lib.byteCells F.fp)) := Lib.hid (by
    have := T4.out.a.part (p := []) (s := Lib.byteCells F.fp) (q := cs.drop 8) (by rw [List.nil_append, ← HC.out.fp, List.take_append_drop])
    simpa using this)
  have CB : Hid (Cs z4 gB 0 (Lib.byteCells F.fp)) := Lib.hid (by
    have := T4.out.b.part (p := []) (s := Lib.byteCells F.fp) (q := ds.drop 8) (by rw [List.nil_append, ← HD.out.fp, List.take_append_drop])
    simpa using this)
  have q22 : ∀ w, (Op.equalIn 10000 22 (.agg (Lib.byteCells F.fp).toArray) (.agg (Lib.byteCells F.fp).toArray)).run Tryz.prog w = .ok true w := fun w => self_by 9998 22 8 F.fp (by kernel_rfl) HC.out.fpl w
  have g22 : Tryz.prog.eqGuardType Tryz.prog.depth 22 = false := by kernel_rfl
  go_wp2_with (first | ((with_reducible refine selD 34 ?_); go_must (refine wpList_load_cs _ rfl 22 _ rfl gA 0 (Lib.byteCells F.fp) rfl (Tryz.isAgg22 _) (by rw [bc_len, HC.out.fpl]; exact Tryz.sizeOf22 _) CA.out ?_)) | ((with_reducible refine selD 36 ?_); go_must (refine wpList_load_cs _ rfl 22 _ rfl gB 0 (Lib.byteCells F.fp) rfl (Tryz.isAgg22 _) (by rw [bc_len, HC.out.fpl]; exact Tryz.sizeOf22 _) CB.out ?_)))
  refine (same34_any F.imports v0 u0 _ (Nat.le_trans HS.out.nImps (by decide)) T4.out.fs.s0 T4.out.gs.s0).mono ?_
  rintro e z5 ⟨rfl, f5⟩
  have T5 := Lib.hid (T4.out.fr0 f5)
  clear f5 T4 a9 b9 a8 b8 CA CB q22 g22
  obtain ⟨a10, b10⟩ := T5.out.cell 10 _ _ HC.out.e1 HD.out.e1
  go_wp2_with fail
  refine (same35_any F.packages v1 u1 _ (Nat.le_trans HS.out.nPkgs (by decide)) T5.out.fs.s1 T5.out.gs.s1).mono ?_
  rintro e z6 ⟨rfl, f6⟩
  have T6 := Lib.hid (T5.out.fr0 f6)
  clear f6 T5 a10 b10
  obtain ⟨a11, b11⟩ := T6.out.cell 11 _ _ HC.out.e2 HD.out.e2
  go_wp2_with fail
  refine (same35_any F.files v2 u2 _ (Nat.le_trans HS.out.nFiles (by decide)) T6.out.fs.s2 T6.out.gs.s2).mono ?_
  rintro e z7 ⟨rfl, f7⟩
  have T7 := Lib.hid (T6.out.fr0 f7)
  clear f7 T6 a11 b11
  obtain ⟨a16, b16⟩ := T7.out.cell 16 _ _ HC.out.e7 HD.out.e7
  go_wp2_with fail
  refine (same36_any F.refs v7 u7 _ (Nat.le_trans HS.out.nRefs (by decide)) T7.out.fs.s7 T7.out.gs.s7).mono ?_
  rintro e z8 ⟨rfl, f8⟩
  have T8 := Lib.hid (T7.out.fr0 f8)
  clear f8 T7 a16 b16
  obtain ⟨a17, b17⟩ := T8.out.cell 17 _ _ HC.out.e8 HD.out.e8
  go_wp2_with fail
  refine (same37_any F.refFlags v8 u8 _ (Nat.le_trans HS.out.nFlags (by decide)) T8.out.fs.s8 T8.out.gs.s8).mono ?_
  rintro e z9 ⟨rfl, f9⟩
  have T9 := Lib.hid (T8.out.fr0 f9)
  clear f9 T8 a17 b17
  obtain ⟨a20, b20⟩ := T9.out.cell 20 _ _ HC.out.e11 HD.out.e11
  go_wp2_with fail
  refine (same38_any F.refNames v11 u11 _ (Nat.le_trans HS.out.nNames (by decide)) T9.out.fs.s11 T9.out.gs.s11).mono ?_
  rintro e z10 ⟨rfl, f10⟩
  have T10 := Lib.hid (T9.out.fr0 f10)
  clear f10 T9 a20 b20
  obtain ⟨a18, b18⟩ := T10.out.cell 18 _ _ HC.out.e9 HD.out.e9
  go_wp2_with fail
  refine (same39_any F.hashes64 v9 u9 _ M5.out T10.out.fs.s9 T10.out.gs.s9).mono ?_
  rintro e z11 ⟨rfl, f11⟩
  have T11 := Lib.hid (T10.out.fr0 f11)
  clear f11 T10 a18 b18
  obtain ⟨a19, b19⟩ := T11.out.cell 19 _ _ HC.out.e10 HD.out.e10
  go_wp2_with fail
  refine (same40_any F.hashes v10 u10 _ M6.out T11.out.fs.s10 T11.out.gs.s10).mono ?_
  rintro e z12 ⟨rfl, f12⟩
  have T12 := Lib.hid (T11.out.fr0 f12)
  clear f12 T11 a19 b19
  go_wp2_with fail
  go_ret
  exact ⟨rfl, T12.out.fr⟩

end Go.Proofs.YtnhafphgkipldaaGreatDoor
