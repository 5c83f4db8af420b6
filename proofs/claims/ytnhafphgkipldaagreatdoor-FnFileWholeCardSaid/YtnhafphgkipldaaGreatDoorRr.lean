/- reread: a file read back from its bytes. Conditions: the bytes are those of a file. -/
import Derived.Test.YtnhafphgkipldaaGreatDoorRz
namespace Go.Proofs.YtnhafphgkipldaaGreatDoor
open Go Go.RowKit

section
variable {F : Fil} {l : By} {os : List Int} {o : Nat → Nat} {w : World} {g c : Nat}
set_option maxHeartbeats 3200000 in
set_option maxRecDepth 100000 in
theorem reread_any (E : Ef F l os o) (I : In l w g c) : Calls Tryz.prog 7 #[.slice (some ⟨g, 0, none⟩) l.length c, .int .i64 F.hashes64.length, .int .i64 F.hashes.length] w fun e w' => ∃ v, e = .returned v ∧ FilR w' v F ∧ Fr [] w w' := by
  have HE := Lib.hid E; have HI := Lib.hid I
  clear E I
  go_enter Tryz.func7, Tryz.ntmps7
  go_wp2_with fail
  have B0 := Blk.new w 33 #[Value.int .u8 0, .int .u8 0, .int .u8 0, .int .u8 0, .int .u8 0, .int .u8 0, .int .u8 0, .int .u8 0, .int .u32 0, .slice none 0 0, .slice none 0 0, .slice none 0 0, .slice none 0 0, .slice none 0 0, .slice none 0 0, .slice none 0 0, .slice none 0 0, .slice none 0 0, .slice none 0 0, .slice none 0 0, .slice none 0 0]
  have F0 := (Fr.refl [] w).alloc (.cells #[Value.int .u8 0, .int .u8 0, .int .u8 0, .int .u8 0, .int .u8 0, .int .u8 0, .int .u8 0, .int .u8 0, .int .u32 0, .slice none 0 0, .slice none 0 0, .slice none 0 0, .slice none 0 0, .slice none 0 0, .slice none 0 0, .slice none 0 0, .slice none 0 0, .slice none 0 0, .slice none 0 0, .slice none 0 0, .slice none 0 0] 33)
  generalize w.alloc (.cells #[Value.int .u8 0, .int .u8 0, .int .u8 0, .int .u8 0, .int .u8 0, .int .u8 0, .int .u8 0, .int .u8 0, .int .u32 0, .slice none 0 0, .slice none 0 0, .slice none 0 0, .slice none 0 0, .slice none 0 0, .slice none 0 0, .slice none 0 0, .slice none 0 0, .slice none 0 0, .slice none 0 0, .slice none 0 0, .slice none 0 0] 33) = w1 at B0 F0 ⊢
  have HB := Lib.hid B0; have HF1 := Lib.hid F0
  clear B0 F0
  refine (fileImports_any HE.out (HI.out.fr HF1.out)).mono ?_
  rintro e w2 ⟨v0, rfl, ho0, f2⟩
  obtain ⟨A0, c0x, rfl⟩ := own_shape ho0
  have HO0 := Lib.hid ho0; have HF2 := Lib.hid (HF1.out.trans f2); have HB2 := Lib.hid (f2.blk (by simp) HB.out)
  clear ho0 f2 HB HF1
  go_wp2_with fail
  refine (fileFiles_any HE.out (HI.out.fr HF2.out)).mono ?_
  rintro e w3 ⟨v2, rfl, ho2, f3⟩
  obtain ⟨A2, c2, rfl⟩ := own_shape ho2
  have HO2 := Lib.hid ho2; have HO0' := Lib.hid (own_fr HO0.out f3); have HF3 := Lib.hid (HF2.out.trans f3); have HB3 := Lib.hid (f3.blk (by simp) HB2.out)
  clear ho2 f3 HB2 HF2 HO0
  go_wp2_with ((with_reducible refine selS 33 ?_); go_must (refine wpList_store_all _ rfl 33 _ _ rfl _ 33 _ (fcells zfp 0 [.slice A0 F.imports.length c0x, nilS, .slice A2 F.files.length c2, nilS, nilS, nilS, nilS, nilS, nilS, nilS, nilS, nilS]) rfl rfl (Tryz.sizeOf33 _) (Blk.new _ 33 _) rfl (by intro v hv; simp only [fcells, zfp, Lib.byteCells, List.map_cons, List.map_nil, List.cons_append, List.nil_append, List.mem_cons, List.not_mem_nil, or_false] at hv; rcases hv with rfl | rfl | rfl | rfl | rfl | rfl | rfl | rfl | rfl | rfl | rfl | rfl | rfl | rfl | rfl | rfl | rfl | rfl | rfl | rfl | rfl <;> rfl) ?_; intro w4 hb4 hf4; refine Hid.out ?_))
  refine Lib.hid ?_
  have f4 : Fr [] w3 w4 := ((Fr.refl [] w3).alloc _ |>.mono (S' := [w3.heap.size]) (by simp)).trans hf4 |>.mono (S' := []) (by simp)
  have HFB := Lib.hid hb4
  have HO0 := Lib.hid (own_fr HO0'.out f4); have HO2' := Lib.hid (own_fr HO2.out f4); have HF4 := Lib.hid (HF3.out.trans f4); have HB4 := Lib.hid (f4.blk (by simp) HB3.out)
  have hfw : w.heap.size ≤ w3.heap.size := HF3.out.size
  have hrf : w.heap.size ≠ w3.heap.size := by have := HB3.out.lt; omega
  clear hb4 hf4 f4 HO0' HO2 HF3 HB3
  generalize w3.heap.size = fb at HFB hfw hrf ⊢
  go_wp2_with fail
  refine (fileHead_any HE.out (HI.out.fr HF4.out)).mono ?_
  rintro e w5 ⟨vq, uq, rfl, f5⟩
  have HFB5 := Lib.hid (f5.blk (by simp) HFB.out); have HO05 := Lib.hid (own_fr HO0.out f5); have HO25 := Lib.hid (own_fr HO2'.out f5); have HF5 := Lib.hid (HF4.out.trans f5); have HB5 := Lib.hid (f5.blk (by simp) HB4.out)
  clear f5 HFB HO0 HO2' HF4 HB4
  have HL8 : Hid ((Lib.byteCells F.fp).length = 8) := Lib.hid (by rw [bc_len, HE.out.fpl])
  go_wp2_with ((with_reducible refine selS 22 ?_); go_must (refine wpList_store_cs _ rfl 22 _ _ rfl fb 0 33 [] (Lib.byteCells zfp) _ (Lib.byteCells F.fp) rfl rfl (by rw [HL8.out]; exact Tryz.sizeOf22 _) HFB5.out rfl (by rw [HL8.out]; rfl) (bc_one _) ?_; intro w6 hb6 hf6; refine Hid.out ?_))
  refine Lib.hid ?_
  have HFB6 : Hid (Blk w6 fb 33 (fcells F.fp 0 [.slice A0 F.imports.length c0x, nilS, .slice A2 F.files.length c2, nilS, nilS, nilS, nilS, nilS, nilS, nilS, nilS, nilS]).toArray) := Lib.hid (by have := hb6; simpa [fcells] using this)
  have HO06 := Lib.hid (own_frS HO05.out hf6 HFB5.out (by decide)); have HO26 := Lib.hid (own_frS HO25.out hf6 HFB5.out (by decide))
  have HF6 := Lib.hid ((HF5.out.mono (S' := [fb]) (by simp)).trans hf6 |>.mono (S' := []) (by simpa using hfw))
  have HB6 := Lib.hid (hf6.blk (by simpa using hrf) HB5.out)
  have hp8 : (Lib.byteCells F.fp).length = 8 := HL8.out
  have c8 : w6.cell? ⟨fb, 8, none⟩ = some (.int .u32 0) := HFB6.out.at (p := Lib.byteCells F.fp) 8 HL8.out.symm
  have z8 := HFB6.out.frozen 8
  clear hb6 hf6 HFB5 HO05 HO25 HF5 HB5 hp8
  go_wp2_with fail
  have B7 : Blk (w6.setCell ⟨fb, 8, none⟩ (.int .u32 F.flags)) fb 33 (fcells F.fp F.flags [.slice A0 F.imports.length c0x, nilS, .slice A2 F.files.length c2, nilS, nilS, nilS, nilS, nilS, nilS, nilS, nilS, nilS]).toArray := Blk.put (p := Lib.byteCells F.fp) HFB6.out 8 HL8.out.symm _
  have f7 : Fr [fb] w6 (w6.setCell ⟨fb, 8, none⟩ (.int .u32 F.flags)) := (Fr.refl [fb] w6).set (.inl (by simp)) _
  have HFB7 := Lib.hid B7; have HO07 := Lib.hid (own_frS HO06.out f7 HFB6.out (by decide)); have HO27 := Lib.hid (own_frS HO26.out f7 HFB6.out (by decide))
  have HF7 := Lib.hid ((HF6.out.mono (S' := [fb]) (by simp)).trans f7 |>.mono (S' := []) (by simpa using hfw))
  have HB7 := Lib.hid (f7.blk (by simpa using hrf) HB6.out)
  clear B7 f7 c8 z8 HFB6 HO06 HO26 HF6 HB6
  generalize w6.setCell ⟨fb, 8, none⟩ (.int .u32 F.flags) = w7 at HFB7 HO07 HO27 HF7 HB7 ⊢
  refine (filePkgs_any HE.out (HI.out.fr HF7.out)).mono ?_
  rintro e w8 ⟨v1, v1b, rfl, ho1, f8⟩
  obtain ⟨A1, c1, rfl⟩ := own_shape ho1
  have HO18 := Lib.hid ho1; have HO08 := Lib.hid (own_fr HO07.out f8); have HO28 := Lib.hid (own_fr HO27.out f8); have HF8 := Lib.hid (HF7.out.trans f8); have HB8 := Lib.hid (f8.blk (by simp) HB7.out); have HFB8 := Lib.hid (f8.blk (by simp) HFB7.out)
  clear ho1 f8 HFB7 HO07 HO27 HF7 HB7
  have hp10 : (Lib.byteCells F.fp ++ [Value.int .u32 F.flags, .slice A0 F.imports.length c0x]).length = 10 := by rw [List.length_append, HL8.out]; rfl
  have hb8 : Blk w8 fb 33 ((Lib.byteCells F.fp ++ [Value.int .u32 F.flags, .slice A0 F.imports.length c0x]) ++ nilS :: [.slice A2 F.files.length c2, nilS, nilS, nilS, nilS, nilS, nilS, nilS, nilS, nilS]).toArray := by have := HFB8.out; simpa [fcells] using this
  have c10 : w8.cell? ⟨fb, 10, none⟩ = some nilS := hb8.at 10 hp10.symm
  have z10 := hb8.frozen 10
  have HP10 := Lib.hid hp10; have HB8' := Lib.hid hb8
  clear hp10 hb8
  go_wp2_with fail
  have B9 : Blk (w8.setCell ⟨fb, 10, none⟩ (.slice A1 F.packages.length c1)) fb 33 (fcells F.fp F.flags [.slice A0 F.imports.length c0x, .slice A1 F.packages.length c1, .slice A2 F.files.length c2, nilS, nilS, nilS, nilS, nilS, nilS, nilS, nilS, nilS]).toArray := by
    have := HB8'.out.put 10 HP10.out.symm (.slice A1 F.packages.length c1)
    simpa [fcells] using this
  have f9 : Fr [fb] w8 (w8.setCell ⟨fb, 10, none⟩ (.slice A1 F.packages.length c1)) := (Fr.refl [fb] w8).set (.inl (by simp)) _
  have HFB9 := Lib.hid B9; have HO09 := Lib.hid (own_frS HO08.out f9 HFB8.out (by decide)); have HO19 := Lib.hid (own_frS HO18.out f9 HFB8.out (by decide)); have HO29 := Lib.hid (own_frS HO28.out f9 HFB8.out (by decide))
  have HF9 := Lib.hid ((HF8.out.mono (S' := [fb]) (by simp)).trans f9 |>.mono (S' := []) (by simpa using hfw))
  have HB9 := Lib.hid (f9.blk (by simpa using hrf) HB8.out)
  clear B9 f9 c10 z10 HB8' HO08 HO18 HO28 HF8 HB8 HFB8 HP10
  generalize w8.setCell ⟨fb, 10, none⟩ (.slice A1 F.packages.length c1) = w9 at HFB9 HO09 HO19 HO29 HF9 HB9 ⊢
  refine (fileCounts_any HE.out (HI.out.fr HF9.out)).mono ?_
  rintro e wa ⟨rfl, fa⟩
  have HFBa := Lib.hid (fa.blk (by simp) HFB9.out); have HO0a := Lib.hid (own_fr HO09.out fa); have HO1a := Lib.hid (own_fr HO19.out fa); have HO2a := Lib.hid (own_fr HO29.out fa); have HFa := Lib.hid (HF9.out.trans fa); have HBa := Lib.hid (fa.blk (by simp) HB9.out)
  clear fa HFB9 HO09 HO19 HO29 HF9 HB9
  go_wp2_with ((with_reducible refine selS 82 ?_); go_must (refine wpList_store_all _ rfl 82 _ _ rfl _ 82 _ [.int .i64 F.own.length, .int .i64 F.short.length, .int .i64 F.hashed.length, .int .i64 F.other.length, .int .i64 F.refs.length, .int .i64 F.refFlags.length, .int .i64 F.refNames.length] rfl rfl (Tryz.sizeOf82 _) (Blk.new _ 82 _) rfl (by intro v hv; simp only [List.mem_cons, List.not_mem_nil, or_false] at hv; rcases hv with rfl | rfl | rfl | rfl | rfl | rfl | rfl <;> rfl) ?_; intro wb hbb hfb; refine Hid.out ?_))
  refine Lib.hid ?_
  have fb' : Fr [] wa wb := ((Fr.refl [] wa).alloc _ |>.mono (S' := [wa.heap.size]) (by simp)).trans hfb |>.mono (S' := []) (by simp)
  have HCB := Lib.hid hbb; have HFBb := Lib.hid (fb'.blk (by simp) HFBa.out); have HO0b := Lib.hid (own_fr HO0a.out fb'); have HO1b := Lib.hid (own_fr HO1a.out fb'); have HO2b := Lib.hid (own_fr HO2a.out fb'); have HFb := Lib.hid (HFa.out.trans fb'); have HBb := Lib.hid (fb'.blk (by simp) HBa.out)
  have hcw : w.heap.size ≤ wa.heap.size := HFa.out.size
  have hcf : wa.heap.size ≠ fb := by have := HFBa.out.lt; omega
  clear hbb hfb fb' HFBa HO0a HO1a HO2a HFa HBa
  generalize wa.heap.size = cb at HCB hcw hcf ⊢
  go_wp2_with ((with_reducible refine selS 84 ?_); go_must (refine wpList_store_all _ rfl 84 _ _ rfl _ 84 _ [nilS, nilS, nilS, nilS] rfl rfl (Tryz.sizeOf84 _) (Blk.new _ 84 _) rfl (by intro v hv; simp only [List.mem_cons, List.not_mem_nil, or_false] at hv; rcases hv with rfl | rfl | rfl | rfl <;> rfl) ?_; intro wd hbd hfd; refine Hid.out ?_))
  refine Lib.hid ?_
  have fd : Fr [] wb wd := ((Fr.refl [] wb).alloc _ |>.mono (S' := [wb.heap.size]) (by simp)).trans hfd |>.mono (S' := []) (by simp)
  have HLB := Lib.hid hbd; have HCBd := Lib.hid (fd.blk (by simp) HCB.out); have HFBd := Lib.hid (fd.blk (by simp) HFBb.out); have HO0d := Lib.hid (own_fr HO0b.out fd); have HO1d := Lib.hid (own_fr HO1b.out fd); have HO2d := Lib.hid (own_fr HO2b.out fd); have HFd := Lib.hid (HFb.out.trans fd); have HBd := Lib.hid (fd.blk (by simp) HBb.out)
  have hlw : w.heap.size ≤ wb.heap.size := HFb.out.size
  have hlf : wb.heap.size ≠ fb ∧ wb.heap.size ≠ cb ∧ w.heap.size ≠ wb.heap.size := by have := HFBb.out.lt; have := HCB.out.lt; have := HBb.out.lt; omega
  clear hbd hfd fd HFBb HO0b HO1b HO2b HFb HBb HCB
  generalize wb.heap.size = lb at HLB hlw hlf ⊢
  have P0 : Hid (Rst F w w.heap.size cb (.slice A0 F.imports.length c0x) (.slice A1 F.packages.length c1) (.slice A2 F.files.length c2) wd) := Lib.hid ⟨HFd.out, ⟨_, HBd.out, rfl⟩, HCBd.out, ⟨_, HO0d.out⟩, ⟨_, HO1d.out⟩, ⟨_, HO2d.out⟩⟩
  have L0 : Hid (LBs F wd 0 [nilS, nilS, nilS, nilS]) := Lib.hid ⟨rfl, fun j hj => by omega, fun j _ hj => by match j, hj with | 0, _ => rfl | 1, _ => rfl | 2, _ => rfl | 3, _ => rfl⟩
  clear HFd HBd HCBd HO0d HO1d HO2d
  go_upto_block 0 with fail
  go_cut [9] (fun t x => t = .int .u32 ((defs F).length : Nat) ∧ ∃ vs : List Value, Rst F w w.heap.size cb (.slice A0 F.imports.length c0x) (.slice A1 F.packages.length c1) (.slice A2 F.files.length c2) x ∧ LBs F x 4 vs ∧ Blk x lb 84 vs.toArray ∧ Blk x fb 33 (fcells F.fp F.flags [.slice A0 F.imports.length c0x, .slice A1 F.packages.length c1, .slice A2 F.files.length c2, nilS, nilS, nilS, nilS, nilS, nilS, nilS, nilS, nilS]).toArray)
  case first =>
    go_wp2_with fail
    go_loopg [46, 9] 4 (fun g0 c0 t x => ∃ k : Nat, k ≤ 4 ∧ g0 = 4 - k ∧ c0 = .int .i64 k ∧ t = .int .u32 (((LL F).take k).flatten.length : Nat) ∧ ∃ vs : List Value, Rst F w w.heap.size cb (.slice A0 F.imports.length c0x) (.slice A1 F.packages.length c1) (.slice A2 F.files.length c2) x ∧ LBs F x k vs ∧ Blk x lb 84 vs.toArray ∧ Blk x fb 33 (fcells F.fp F.flags [.slice A0 F.imports.length c0x, .slice A1 F.packages.length c1, .slice A2 F.files.length c2, nilS, nilS, nilS, nilS, nilS, nilS, nilS, nilS, nilS]).toArray)
    case atStart => exact ⟨0, by omega, rfl, rfl, rfl, [nilS, nilS, nilS, nilS], P0.out, L0.out, HLB.out, HFBd.out⟩
    case round =>
      obtain ⟨k, hk, rfl, rfl, rfl, vs, hP, hL, hlb, hfbk⟩ := hrel
      obtain ⟨xk, hxk⟩ : ∃ xk, xk = wr := ⟨_, rfl⟩
      subst hxk
      have HP := Lib.hid hP; have HL := Lib.hid hL; have HLBk := Lib.hid hlb; have HFBk := Lib.hid hfbk
      clear hP hL hlb hfbk
      by_cases hlt : k < 4
      · obtain ⟨ls, hls⟩ : ∃ ls, (LL F)[k]? = some ls := ⟨_, List.getElem?_eq_getElem (by simpa [LL] using hlt)⟩
        have ck : xk.cell? ⟨cb, k, none⟩ = some (.int .i64 ls.length) := by
          rw [HP.out.cbk.cell]
          match k, hlt, hls with
          | 0, _, h => cases h; rfl
          | 1, _, h => cases h; rfl
          | 2, _, h => cases h; rfl
          | 3, _, h => cases h; rfl
        have n60 : ls.length ≤ 60 := by have h1 := LL_le F k ls hls; have h2 : (defs F).length ≤ 60 := HE.out.small.nDefs; omega
        obtain ⟨base, hbase⟩ : ∃ base, base = ((LL F).take k).flatten.length := ⟨_, rfl⟩
        have hb60 : base + ls.length ≤ 60 := by have h1 := LL_le F k ls hls; have h2 : (defs F).length ≤ 60 := HE.out.small.nDefs; omega
        have HLS := Lib.hid hls; have HBS := Lib.hid hbase
        have hk7 : (k : Int) < 7 := by omega
        rw [← hbase]
        clear hls hbase
        go_wp2_with fail
        clear ck
        try rw [show decide ((k : Int) < 4) = true from by simp; omega]
        go_loopw [52, 9] (fun c0 t y => ∃ j : Nat, j ≤ ls.length ∧ c0 = .int .i64 j ∧ t = .int .u32 ((base + j : Nat) : Int) ∧ Fr [lb] xk y ∧ ∃ v, Blk y lb 84 (vs.set k v).toArray ∧ DL xk.heap.size y v (ls.take j)) (fun c _ _ => ls.length - (intOf c).toNat)
        case atStart => exact ⟨0, Nat.zero_le _, rfl, rfl, Fr.refl _ _, nilS, by
          have h1 := HL.out.2.2 k (Nat.le_refl _) hlt
          have e1 : vs.set k nilS = vs := by
            obtain ⟨h2, h3⟩ := List.getElem?_eq_some_iff.1 h1
            rw [← h3]; exact List.set_getElem_self h2
          rw [e1]; exact HLBk.out, DL.nil _ _⟩
        case round =>
          obtain ⟨j, hj, rfl, rfl, hf, v, hlb, hdl⟩ := hrel
          have HFj := Lib.hid hf; have HLBj := Lib.hid hlb; have HDL := Lib.hid hdl
          clear hf hlb hdl
          by_cases hlj : j < ls.length
          · obtain ⟨x, hx⟩ : ∃ x, ls[j]? = some x := ⟨_, List.getElem?_eq_getElem hlj⟩
            have hidx := LL_index F k ls HLS.out j x hx
            rw [← HBS.out] at hidx
            have hidr : ((defs F).map Def.rfd ++ F.refs)[base + j]? = some x.rfd := by
              have hl := (List.getElem?_eq_some_iff.1 hidx).1
              rw [List.getElem?_append_left (by rw [List.length_map]; exact hl), List.getElem?_map, hidx]; rfl
            obtain ⟨id, hid⟩ : ∃ id, id = base + j := ⟨_, rfl⟩
            rw [← hid] at hidx hidr ⊢
            have HID := Lib.hid hid; have HIX := Lib.hid hidx; have HIR := Lib.hid hidr; have HX := Lib.hid hx
            have hid60 : id < 60 := by omega
            clear hid hidx hidr hx
            have FW : Hid (Fr [] w wr) := Lib.hid ((HP.out.fr.mono (S' := [lb]) (by simp)).trans HFj.out |>.mono (S' := []) (by simpa using hlw))
            go_wp2_with fail
            refine (fileSym_any HE.out (HI.out.fr FW.out) id x.rfd HIR.out).mono ?_
            rintro e y1 ⟨rfl, f1⟩
            have HF1 := Lib.hid (HFj.out.trans (f1.mono (S' := [lb]) (by simp))); have HL1 := Lib.hid (f1.blk (by simp) HLBj.out); have HD1 := Lib.hid (HDL.out.fr f1); have FW1 := Lib.hid (FW.out.trans f1)
            clear f1 HFj HLBj HDL FW
            go_wp2_with ((with_reducible refine selS 53 ?_); go_must (refine wpList_store_all _ rfl 53 _ _ rfl _ 53 _ x.rfd.cells rfl rfl (Tryz.sizeOf53 _) (Blk.new _ 53 _) rfl (by intro v hv; simp only [Rfd.cells, Sy.cells, List.mem_cons, List.not_mem_nil, or_false] at hv; rcases hv with rfl | rfl | rfl | rfl | rfl | rfl | rfl <;> rfl) ?_; intro y2 hb2 hf2; refine Hid.out ?_))
            refine Lib.hid ?_
            have f2 : Fr [] y1 y2 := ((Fr.refl [] y1).alloc _ |>.mono (S' := [y1.heap.size]) (by simp)).trans hf2 |>.mono (S' := []) (by simp)
            have HSB := Lib.hid hb2
            have HF2 := Lib.hid (HF1.out.trans (f2.mono (S' := [lb]) (by simp))); have HL2 := Lib.hid (f2.blk (by simp) HL1.out); have HD2 := Lib.hid (HD1.out.fr f2); have FW2 := Lib.hid (FW1.out.trans f2)
            clear hb2 hf2 f2 HF1 HL1 HD1 FW1
            generalize y1.heap.size = sb at HSB ⊢
            go_wp2_with fail
            refine (fileData_any HE.out (HI.out.fr FW2.out) id x HIX.out).mono ?_
            rintro e y3 ⟨vd, rfl, f3⟩
            have HS3 := Lib.hid (f3.blk (by simp) HSB.out)
            have HF3 := Lib.hid (HF2.out.trans (f3.mono (S' := [lb]) (by simp))); have HL3 := Lib.hid (f3.blk (by simp) HL2.out); have HD3 := Lib.hid (HD2.out.fr f3); have FW3 := Lib.hid (FW2.out.trans f3)
            clear f3 HSB HF2 HL2 HD2 FW2
            go_wp2_with fail
            have hxk : xk.heap.size ≤ y3.heap.size := HF3.out.size
            have h0k : (0 : Int) ≤ (k : Int) := by omega
            have hk4 : (k : Int) < 4 := by omega
            have hl4 : (vs.set k v).length = 4 := by rw [List.length_set]; exact HL.out.1
            have hvk : (vs.set k v)[k]? = some v := by rw [List.getElem?_set_self (by rw [HL.out.1]; exact hlt)]
            have HVK := Lib.hid hvk
            have HL4 := Lib.hid hl4
            clear hvk hl4
            refine wp_region_plan 19 [(0, true), (1, true), (2, true), (3, true), (4, true), (5, true), (6, true), (7, true), (8, true), (9, true), (11, true), (12, true), (14, true), (10, false), (13, false), (15, true), (16, false), (17, false), (18, true)] (fun z => Blk z lb 84 (vs.set k v).toArray ∧ Blk z sb 53 x.rfd.cells.toArray) (by kernel_rfl) (by kernel_rfl) ⟨HL3.out.drew, HS3.out.drew⟩ ?_

            refine plan_move _ (.int .i64 k) (by rfl) rfl rfl rfl ?_
            simp only [Act.put, List.setIfInBounds_toArray, List.set_cons_zero, List.set_cons_succ]

            refine plan_move _ (.int .i64 k) (by rfl) rfl rfl rfl ?_
            simp only [Act.put, List.setIfInBounds_toArray, List.set_cons_zero, List.set_cons_succ]

            refine plan_q (.pointer (some ⟨lb, k, none⟩)) (by rfl) rfl (by intro z _; go_simp) ?_
            simp only [Act.put, List.setIfInBounds_toArray, List.set_cons_zero, List.set_cons_succ]

            refine plan_cell 26 _ ⟨lb, k, none⟩ v (by rfl) rfl rfl rfl (fun _ => by kernel_rfl) (fun z hz => by rw [hz.1.cell]; simpa using HVK.out) ?_
            simp only [Act.put, List.setIfInBounds_toArray, List.set_cons_zero, List.set_cons_succ]

            refine plan_q (.pointer (some ⟨sb, 0, none⟩)) (by rfl) rfl (by intro z _; go_simp) ?_
            simp only [Act.put, List.setIfInBounds_toArray, List.set_cons_zero, List.set_cons_succ]

            refine plan_cell 9 _ ⟨sb, 0, none⟩ (.string x.name) (by rfl) rfl rfl rfl (fun _ => by kernel_rfl) (fun z hz => by rw [hz.2.cell]; rfl) ?_
            simp only [Act.put, List.setIfInBounds_toArray, List.set_cons_zero, List.set_cons_succ]

            refine plan_q (.pointer (some ⟨sb, 1, none⟩)) (by rfl) rfl (by intro z _; go_simp) ?_
            simp only [Act.put, List.setIfInBounds_toArray, List.set_cons_zero, List.set_cons_succ]

            refine plan_load 47 _ sb 1 x.sy.cells (by rfl) rfl rfl rfl (fun _ => by kernel_rfl) (fun _ => by kernel_rfl) (fun z hz => hz.2.part (p := [.string x.name]) (s := x.sy.cells) (q := []) (by simp [Rfd.cells, Def.rfd])) ?_
            simp only [Act.put, List.setIfInBounds_toArray, List.set_cons_zero, List.set_cons_succ]

            refine plan_move _ (.slice (some ⟨g, 0, none⟩) l.length c) (by rfl) rfl rfl rfl ?_
            refine plan_move _ (.int .u32 id) (by rfl) rfl rfl rfl ?_
            refine plan_move _ (.slice (some ⟨g, 0, none⟩) l.length c) (by rfl) rfl rfl rfl ?_
            refine plan_move _ (.int .u32 id) (by rfl) rfl rfl rfl ?_
            refine plan_move _ (.string x.data) (by rfl) rfl rfl rfl ?_
            simp only [Act.put, List.setIfInBounds_toArray, List.set_cons_zero, List.set_cons_succ]

            refine plan_l (by rfl) ?_ rfl
            refine step_call2 rfl 27 _ _ _ rfl (.slice (some ⟨g, 0, none⟩) l.length c) (.int .u32 id) rfl rfl (by kernel_rfl) (fileRelocs_any HE.out (HI.out.fr FW3.out.drew) id x HIX.out) ?_

            rintro e z1 ⟨vr, rfl, hor, hro, hF⟩
            obtain ⟨Ar, cr, rfl⟩ := own_shape hor
            refine ⟨_, rfl, ⟨hF.blk (by simp) HL3.out.drew, hF.blk (by simp) HS3.out.drew⟩, ?_⟩
            have HR1 := Lib.hid hor; have HRo := Lib.hid hro; have HK1 := Lib.hid ((Fr.refl [] y3).drew.trans hF)
            clear hor hro hF
            simp only [Act.put, List.setIfInBounds_toArray, List.set_cons_zero, List.set_cons_succ]
            refine plan_l (by rfl) ?_ rfl
            refine step_call2 rfl 28 _ _ _ rfl (.slice (some ⟨g, 0, none⟩) l.length c) (.int .u32 id) rfl rfl (by kernel_rfl) (fileAuxs_any HE.out (HI.out.fr (FW3.out.trans HK1.out)) id x HIX.out) ?_

            rintro e z2 ⟨va, rfl, hoa, hao, hF⟩
            obtain ⟨Aa, ca, rfl⟩ := own_shape hoa
            have HK2 := Lib.hid (HK1.out.trans hF)
            refine ⟨_, rfl, ⟨HK2.out.blk (by simp) HL3.out, HK2.out.blk (by simp) HS3.out⟩, ?_⟩
            have HA1 := Lib.hid hoa; have HAo := Lib.hid hao; have HR2 := Lib.hid (own_fr HR1.out hF)
            clear hoa hao hF HR1 HK1
            simp only [Act.put, List.setIfInBounds_toArray, List.set_cons_zero, List.set_cons_succ]

            refine plan_build5 51 _ _ _ _ _ (.string x.name) (.agg x.sy.cells.toArray) (.slice Ar x.rels.length cr) (.slice Aa x.auxs.length ca) (.string x.data) (.agg (Value.string x.name :: x.sy.cells ++ [Value.slice Ar x.rels.length cr, Value.slice Aa x.auxs.length ca, Value.string x.data]).toArray) (by rfl) rfl rfl rfl rfl rfl rfl rfl (fun z => build51 x.name x.sy Ar Aa x.rels.length cr x.auxs.length ca x.data z) ?_
            simp only [Act.put, List.setIfInBounds_toArray, List.set_cons_zero, List.set_cons_succ]

            obtain ⟨cs, hcs⟩ : ∃ cs, cs = Value.string x.name :: x.sy.cells ++ [Value.slice Ar x.rels.length cr, Value.slice Aa x.auxs.length ca, Value.string x.data] := ⟨_, rfl⟩
            rw [← hcs]
            have HCS := Lib.hid hcs
            clear hcs
            have HC10 : Hid (cs.length = 10) := Lib.hid (by rw [HCS.out]; simp [Sy.cells])
            have HC1 : Hid (∀ u ∈ cs, u.oneCell' = true) := Lib.hid (by
              rw [HCS.out]; intro u hu
              simp only [Sy.cells, List.mem_cons, List.mem_append, List.not_mem_nil, or_false] at hu
              rcases hu with (rfl | rfl | rfl | rfl | rfl | rfl | rfl) | rfl | rfl | rfl <;> rfl)
            refine plan_l (by rfl) ?_ rfl
            refine step_one rfl 26 51 _ rfl (.agg cs.toArray) cs rfl rfl _ _ 10 (by rfl) (by rfl) (by rfl) (by rfl) (by decide) (by decide) HC10.out ?_
            have f3 : Fr [] z2 (z2.alloc (.cells cs.toArray 51)) := (Fr.refl [] z2).alloc _
            have HK3 := Lib.hid (HK2.out.trans f3)
            have HN : Hid (Cs (z2.alloc (.cells cs.toArray 51)) z2.heap.size 0 cs) := Lib.hid (by have := (Blk.new z2 51 cs.toArray).all; simpa using this)
            have HR3 := Lib.hid (own_fr HR2.out f3); have HA3 := Lib.hid (own_fr HA1.out f3)
            clear f3 HR2 HA1
            generalize z2.alloc (.cells cs.toArray 51) = z3 at HK3 HN HR3 HA3 ⊢
            generalize z2.heap.size = nb at HN ⊢
            refine ⟨⟨HK3.out.blk (by simp) HL3.out, HK3.out.blk (by simp) HS3.out⟩, ?_⟩
            simp only [Act.put, List.setIfInBounds_toArray, List.set_cons_zero, List.set_cons_succ]

            have HD4 := Lib.hid (HD3.out.fr HK3.out)
            have HDO : Hid (DO z3 x cs) := Lib.hid ⟨(HE.out.syms id x.rfd HIR.out).1, HRo.out, HAo.out, _, _, _, _, HCS.out, HR3.out, HA3.out⟩
            obtain ⟨css, hcl, hown, hdo⟩ := HD4.out
            have HOWN := Lib.hid hown
            clear hcl hown hdo
            have HF3' : Hid (Fr [lb] xk z3) := Lib.hid (HF3.out.trans (HK3.out.mono (by simp)))
            refine plan_l (by rfl) ?_ rfl
            refine step_pushB xk.heap.size rfl _ _ 26 rfl 51 _ _ 10 _ (by rfl) (by rfl) (by rfl) (by rfl) rfl (by rfl) (by decide) v (ls.take j).length css.flatten rfl HOWN.out HF3'.out.size nb 1 1 cs rfl (by rw [HC10.out]) HN.out HC1.out (by rw [List.length_take]; omega) (by omega) (by decide) ?_
            intro v' z4 ho4 hg4
            have HL4' := Lib.hid (blk_grown (HK3.out.blk (by simp) HL3.out) HOWN.out hg4 (by decide))
            have HS4 := Lib.hid (blk_grown (HK3.out.blk (by simp) HS3.out) HOWN.out hg4 (by decide))
            refine ⟨⟨HL4'.out, HS4.out⟩, ?_⟩
            simp only [Act.put, List.setIfInBounds_toArray, List.set_cons_zero, List.set_cons_succ]

            obtain ⟨A4, c4, rfl⟩ := own_shape ho4
            have HD5 : Hid (DL xk.heap.size z4 (.slice A4 ((ls.take j).length + 1) c4) (ls.take j ++ [x])) := Lib.hid (HD4.out.push HDO.out (fun css' hc' => exact_own hc' HOWN.out ho4) hg4)
            have HF4 := Lib.hid (frS_grown HF3'.out HOWN.out (Nat.le_refl _) hg4)
            clear ho4 hg4
            refine plan_q (.pointer (some ⟨lb, k, none⟩)) (by rfl) rfl (by intro z _; go_simp) ?_
            simp only [Act.put, List.setIfInBounds_toArray, List.set_cons_zero, List.set_cons_succ]
            refine plan_nil ?_
            refine tail_store 26 _ _ ⟨lb, k, none⟩ A4 ((ls.take j).length + 1) c4 v rfl rfl rfl rfl (by kernel_rfl) (by rw [HL4'.out.cell]; simpa using HVK.out) (HL4'.out.frozen k) ?_

            have f5 : Fr [lb] z4 (z4.setCell ⟨lb, k, none⟩ (.slice A4 ((ls.take j).length + 1) c4)) := (Fr.refl [lb] z4).set (.inl (by simp)) _
            have B5 := HL4'.out.set k (.slice A4 ((ls.take j).length + 1) c4)
            have e5 : (vs.set k v).toArray.setIfInBounds k (.slice A4 ((ls.take j).length + 1) c4) = (vs.set k (.slice A4 ((ls.take j).length + 1) c4)).toArray := by
              rw [List.setIfInBounds_toArray, List.set_set]
            rw [e5] at B5
            have HB5 := Lib.hid B5; have HF5 := Lib.hid (HF4.out.trans f5); have HD6 := Lib.hid (HD5.out.frS f5 HL4'.out (by decide) (by decide) (by decide))
            clear f5 B5 e5 HL4' HS4 HD5 HF4 HL3 HS3 HD3 HF3 FW3 HK2 HK3 HN HR3 HA3 HD4 HDO HOWN HF3' HC1 HC10 HCS HRo HAo
            generalize z4.setCell ⟨lb, k, none⟩ (.slice A4 ((ls.take j).length + 1) c4) = z5 at HB5 HF5 HD6 ⊢
            simp only [Act.put, List.setIfInBounds_toArray, List.set_cons_zero, List.set_cons_succ]
            go_wp2_with fail
            go_roundw
            case rel =>
              refine ⟨j + 1, by omega, by go_num, by rw [HID.out]; go_num, HF5.out, _, HB5.out, ?_⟩
              rw [show ls.take (j + 1) = ls.take j ++ [x] from by rw [List.take_add_one, HX.out]; rfl]
              exact HD6.out
            case measure => simp [intOf]; omega
          · have e : j = ls.length := by omega
            subst e
            have hd := HDL.out
            rw [List.take_length] at hd
            have HL1 := Lib.hid (HL.out.step HFj.out HLBk.out HLS.out hd hlt)
            have HP1 := Lib.hid (HP.out.frS HFj.out HLBk.out hlw hlf.2.2 (Ne.symm hlf.2.1) (by decide) (by decide))
            have HFB1 := Lib.hid (HFj.out.blk (by simp only [List.mem_singleton]; exact Ne.symm hlf.1) HFBk.out)
            have HT : Hid ((((LL F).take (k + 1)).flatten.length) = base + ls.length) := Lib.hid (by rw [HBS.out, show (LL F).take (k + 1) = (LL F).take k ++ [ls] from by rw [List.take_add_one, HLS.out]; rfl]; simp)
            clear hd
            go_wp2
            go_roundg (4 - (k + 1))
            case rel => exact ⟨k + 1, by omega, rfl, by go_num, by rw [HT.out], vs.set k v, HP1.out, HL1.out, HLBj.out, HFB1.out⟩
            case measure => omega
      · have e : k = 4 := by omega
        subst e
        go_wp2
        go_meet
        case rel =>
          exact ⟨by rw [show (LL F).take 4 = LL F from rfl, LL_all], vs, HP.out, HL.out, HLBk.out, HFBk.out⟩
  case rest =>
    clear P0 L0 HLB HFBd
    obtain ⟨rfl, vs, hP, hL, hlb, hfbk⟩ := hcut
    have HP := Lib.hid hP; have HFBk := Lib.hid hfbk
    obtain ⟨z3, z4, z5, z6, rfl⟩ : ∃ z3 z4 z5 z6, vs = [z3, z4, z5, z6] := by
      match vs, hL.1 with
      | [a, b, c, d], _ => exact ⟨a, b, c, d, rfl⟩
    have hsh : ∀ (j : Nat) (u : Value), [z3, z4, z5, z6][j]? = some u → j < 4 → ∃ A n c, u = .slice A n c := by
      intro j u hu hj
      obtain ⟨u', ls', B, e1, e2, css, _, e3, _⟩ := hL.2.1 j hj
      rw [hu] at e1; injection e1 with e1; subst e1
      obtain ⟨A, c, rfl⟩ := own_shape e3
      exact ⟨A, _, c, rfl⟩
    obtain ⟨A3, n3, k3, rfl⟩ := hsh 0 _ rfl (by decide)
    obtain ⟨A4, n4, k4, rfl⟩ := hsh 1 _ rfl (by decide)
    obtain ⟨A5, n5, k5, rfl⟩ := hsh 2 _ rfl (by decide)
    obtain ⟨A6, n6, k6, rfl⟩ := hsh 3 _ rfl (by decide)
    have HL := Lib.hid hL; have HLB := Lib.hid hlb
    have HFPL : Hid (F.fp.length = 8) := Lib.hid HE.out.fpl
    obtain ⟨nd, hnd⟩ : ∃ nd, nd = (defs F).length := ⟨_, rfl⟩
    have hnd60 : nd ≤ 60 := by have h2 : (defs F).length ≤ 60 := HE.out.small.nDefs; omega
    rw [← hnd]
    have HND := Lib.hid hnd
    have hnr : F.refs.length ≤ 60 := HE.out.small.nRefs
    have hnf : F.refFlags.length ≤ 60 := HE.out.small.nFlags
    have hnn : F.refNames.length ≤ 60 := HE.out.small.nNames
    have hdl : (defs F).length ≤ 60 := HE.out.small.nDefs
    have hn64 : F.hashes64.length ≤ 60 := by have h1 := HE.out.small.h64; simp only [defs, List.length_append] at hdl; omega
    have hn128 : F.hashes.length ≤ 60 := by have h1 := HE.out.small.h128; simp only [defs, List.length_append] at hdl; omega
    clear hP hL hlb hfbk hsh hnd hdl
    go_wp2_with fail
    have L17 : ∀ (z : World), Blk z lb 84 #[Value.slice A3 n3 k3, .slice A4 n4 k4, .slice A5 n5 k5, .slice A6 n6 k6] → ∀ (i : Nat) (u : Value), [Value.slice A3 n3 k3, .slice A4 n4 k4, .slice A5 n5 k5, .slice A6 n6 k6][i]? = some u → z.cell? ⟨lb, i, none⟩ = some u := fun z hz i u hu => by rw [hz.cell]; simpa using hu
    have HL17 := Lib.hid L17
    clear L17
    refine wp_region_plan 15 [(0, true), (1, true), (2, true), (3, true), (4, true), (5, true), (6, true), (7, true), (8, true), (9, false), (10, true), (11, false), (12, true), (13, false), (14, true)] (fun z => Blk z lb 84 #[Value.slice A3 n3 k3, .slice A4 n4 k4, .slice A5 n5 k5, .slice A6 n6 k6]) (by kernel_rfl) (by kernel_rfl) HLB.out.drew ?_
    refine plan_q (.pointer (some ⟨lb, 0, none⟩)) (by rfl) rfl (by intro z _; go_simp) ?_
    simp only [Act.put, List.setIfInBounds_toArray, List.set_cons_zero, List.set_cons_succ]
    refine plan_cell 26 _ ⟨lb, 0, none⟩ (.slice A3 n3 k3) (by rfl) rfl rfl rfl (fun _ => by kernel_rfl) (fun z hz => HL17.out z hz 0 _ rfl) ?_
    simp only [Act.put, List.setIfInBounds_toArray, List.set_cons_zero, List.set_cons_succ]
    refine plan_q (.pointer (some ⟨lb, 1, none⟩)) (by rfl) rfl (by intro z _; go_simp) ?_
    simp only [Act.put, List.setIfInBounds_toArray, List.set_cons_zero, List.set_cons_succ]
    refine plan_cell 26 _ ⟨lb, 1, none⟩ (.slice A4 n4 k4) (by rfl) rfl rfl rfl (fun _ => by kernel_rfl) (fun z hz => HL17.out z hz 1 _ rfl) ?_
    simp only [Act.put, List.setIfInBounds_toArray, List.set_cons_zero, List.set_cons_succ]
    refine plan_q (.pointer (some ⟨lb, 2, none⟩)) (by rfl) rfl (by intro z _; go_simp) ?_
    simp only [Act.put, List.setIfInBounds_toArray, List.set_cons_zero, List.set_cons_succ]
    refine plan_cell 26 _ ⟨lb, 2, none⟩ (.slice A5 n5 k5) (by rfl) rfl rfl rfl (fun _ => by kernel_rfl) (fun z hz => HL17.out z hz 2 _ rfl) ?_
    simp only [Act.put, List.setIfInBounds_toArray, List.set_cons_zero, List.set_cons_succ]
    refine plan_q (.pointer (some ⟨lb, 3, none⟩)) (by rfl) rfl (by intro z _; go_simp) ?_
    simp only [Act.put, List.setIfInBounds_toArray, List.set_cons_zero, List.set_cons_succ]
    refine plan_cell 26 _ ⟨lb, 3, none⟩ (.slice A6 n6 k6) (by rfl) rfl rfl rfl (fun _ => by kernel_rfl) (fun z hz => HL17.out z hz 3 _ rfl) ?_
    simp only [Act.put, List.setIfInBounds_toArray, List.set_cons_zero, List.set_cons_succ]
    have B0 := HFBk.out.drew
    have HB0 := Lib.hid B0
    clear B0
    refine plan_q (.pointer (some ⟨fb, 12, none⟩)) (by rfl) rfl (by intro z _; go_simp) ?_
    simp only [Act.put, List.setIfInBounds_toArray, List.set_cons_zero, List.set_cons_succ]
    refine plan_l (by rfl) ?_ rfl
    refine step_storeS 26 _ _ ⟨fb, 12, none⟩ A3 n3 k3 nilS rfl rfl rfl rfl (by kernel_rfl) (fat HB0.out HFPL.out (p := [.slice A0 F.imports.length c0x, .slice A1 F.packages.length c1, .slice A2 F.files.length c2]) (q := [nilS, nilS, nilS, nilS, nilS, nilS, nilS, nilS])) (HB0.out.frozen 12) ?_
    have HB1 := Lib.hid (fput HB0.out HFPL.out (i := 12) (p := [.slice A0 F.imports.length c0x, .slice A1 F.packages.length c1, .slice A2 F.files.length c2]) (q := [nilS, nilS, nilS, nilS, nilS, nilS, nilS, nilS]) rfl (.slice A3 n3 k3))
    refine ⟨(HLB.out.drew.far (p := ⟨fb, 12, none⟩) hlf.1 _), ?_⟩
    simp only [Act.put, List.setIfInBounds_toArray, List.set_cons_zero, List.set_cons_succ]
    refine plan_q (.pointer (some ⟨fb, 13, none⟩)) (by rfl) rfl (by intro z _; go_simp) ?_
    simp only [Act.put, List.setIfInBounds_toArray, List.set_cons_zero, List.set_cons_succ]
    refine plan_l (by rfl) ?_ rfl
    refine step_storeS 26 _ _ ⟨fb, 13, none⟩ A4 n4 k4 nilS rfl rfl rfl rfl (by kernel_rfl) (fat HB1.out HFPL.out (p := [.slice A0 F.imports.length c0x, .slice A1 F.packages.length c1, .slice A2 F.files.length c2, .slice A3 n3 k3]) (q := [nilS, nilS, nilS, nilS, nilS, nilS, nilS])) (HB1.out.frozen 13) ?_
    have HB2 := Lib.hid (fput HB1.out HFPL.out (i := 13) (p := [.slice A0 F.imports.length c0x, .slice A1 F.packages.length c1, .slice A2 F.files.length c2, .slice A3 n3 k3]) (q := [nilS, nilS, nilS, nilS, nilS, nilS, nilS]) rfl (.slice A4 n4 k4))
    refine ⟨((HLB.out.drew.far (p := ⟨fb, 12, none⟩) hlf.1 _).far (p := ⟨fb, 13, none⟩) hlf.1 _), ?_⟩
    simp only [Act.put, List.setIfInBounds_toArray, List.set_cons_zero, List.set_cons_succ]
    refine plan_q (.pointer (some ⟨fb, 14, none⟩)) (by rfl) rfl (by intro z _; go_simp) ?_
    simp only [Act.put, List.setIfInBounds_toArray, List.set_cons_zero, List.set_cons_succ]
    refine plan_l (by rfl) ?_ rfl
    refine step_storeS 26 _ _ ⟨fb, 14, none⟩ A5 n5 k5 nilS rfl rfl rfl rfl (by kernel_rfl) (fat HB2.out HFPL.out (p := [.slice A0 F.imports.length c0x, .slice A1 F.packages.length c1, .slice A2 F.files.length c2, .slice A3 n3 k3, .slice A4 n4 k4]) (q := [nilS, nilS, nilS, nilS, nilS, nilS])) (HB2.out.frozen 14) ?_
    have HB3 := Lib.hid (fput HB2.out HFPL.out (i := 14) (p := [.slice A0 F.imports.length c0x, .slice A1 F.packages.length c1, .slice A2 F.files.length c2, .slice A3 n3 k3, .slice A4 n4 k4]) (q := [nilS, nilS, nilS, nilS, nilS, nilS]) rfl (.slice A5 n5 k5))
    refine ⟨(((HLB.out.drew.far (p := ⟨fb, 12, none⟩) hlf.1 _).far (p := ⟨fb, 13, none⟩) hlf.1 _).far (p := ⟨fb, 14, none⟩) hlf.1 _), ?_⟩
    simp only [Act.put, List.setIfInBounds_toArray, List.set_cons_zero, List.set_cons_succ]
    refine plan_q (.pointer (some ⟨fb, 15, none⟩)) (by rfl) rfl (by intro z _; go_simp) ?_
    simp only [Act.put, List.setIfInBounds_toArray, List.set_cons_zero, List.set_cons_succ]
    refine plan_nil ?_
    refine tail_store 26 _ _ ⟨fb, 15, none⟩ A6 n6 k6 nilS rfl rfl rfl rfl (by kernel_rfl) (fat HB3.out HFPL.out (p := [.slice A0 F.imports.length c0x, .slice A1 F.packages.length c1, .slice A2 F.files.length c2, .slice A3 n3 k3, .slice A4 n4 k4, .slice A5 n5 k5]) (q := [nilS, nilS, nilS, nilS, nilS])) (HB3.out.frozen 15) ?_
    simp only [Act.put, List.setIfInBounds_toArray, List.set_cons_zero, List.set_cons_succ]
    have RZ0 := Lib.hid (Rz.start (HP.out.fr0 (Fr.refl [] wc).drew) (HL.out.fr (Fr.refl [] wc).drew) hfw hrf hcf HFPL.out HFBk.out.drew)
    clear HB0 HB1 HB2 HB3 HP HL HLB HL17 HFBk
    generalize ((((wc.drew.setCell ⟨fb, 12, none⟩ (.slice A3 n3 k3)).setCell ⟨fb, 13, none⟩ (.slice A4 n4 k4)).setCell ⟨fb, 14, none⟩ (.slice A5 n5 k5)).setCell ⟨fb, 15, none⟩ (.slice A6 n6 k6)) = wz at RZ0 ⊢
    have c4 := RZ0.out.cb5 4 _ rfl
    go_wp2_with fail
    clear c4
    go_loopw [104, 9] (fun c0 t y => ∃ (k : Nat) (v : Value), k ≤ F.refs.length ∧ c0 = .int .i64 k ∧ t = .int .u32 ((nd + k : Nat) : Int) ∧ Rz F w w.heap.size cb fb (.slice A0 F.imports.length c0x) (.slice A1 F.packages.length c1) (.slice A2 F.files.length c2) (.slice A3 n3 k3) (.slice A4 n4 k4) (.slice A5 n5 k5) (.slice A6 n6 k6) v nilS nilS nilS nilS k 0 0 0 0 y) (fun c _ _ => F.refs.length - (intOf c).toNat)
    case atStart => exact ⟨0, nilS, Nat.zero_le _, rfl, rfl, RZ0.out⟩
    case round =>
      obtain ⟨k, v, hk, rfl, rfl, hz⟩ := hrel
      have HZ := Lib.hid hz
      clear hz
      by_cases hlt : k < F.refs.length
      · obtain ⟨x, hx⟩ : ∃ x, F.refs[k]? = some x := ⟨_, List.getElem?_eq_getElem hlt⟩
        have HX := Lib.hid hx
        clear hx
        have HID : Hid (((defs F).map Def.rfd ++ F.refs)[nd + k]? = some x) := Lib.hid (by rw [HND.out, List.getElem?_append_right (by simp), List.length_map, Nat.add_sub_cancel_left]; exact HX.out)
        obtain ⟨id, hid⟩ : ∃ id, id = nd + k := ⟨_, rfl⟩
        have hid120 : id < 120 := by omega
        have HIDE := Lib.hid hid
        have HONE : Hid (∀ u ∈ x.cells, u.oneCell' = true) := Lib.hid (rfd_one (x := x) (cs := x.cells) ⟨(HE.out.syms (nd + k) x HID.out).1, rfl⟩)
        have HLEN : Hid (x.cells.length = 7) := Lib.hid (rfl)
        rw [← hid] at HID ⊢
        clear hid
        go_wp2_with fail
        refine (fileSym_any HE.out (HI.out.fr HZ.out.st.fr) id x HID.out).mono ?_
        rintro e y1 ⟨rfl, f1⟩
        have HZ1 := Lib.hid (HZ.out.fr0 f1)
        clear f1
        go_wp2_with ((with_reducible refine selS 53 ?_); go_must (refine wpList_store_all _ rfl 53 _ _ rfl _ 53 _ x.cells rfl rfl (Tryz.sizeOf53 _) (Blk.new _ 53 _) rfl HONE.out ?_; intro y2 hb2 hf2; refine Hid.out ?_))
        refine Lib.hid ?_
        have f2 : Fr [] y1 y2 := ((Fr.refl [] y1).alloc _ |>.mono (S' := [y1.heap.size]) (by simp)).trans hf2 |>.mono (S' := []) (by simp)
        have HZ2 := Lib.hid (HZ1.out.fr0 f2)
        have HSB : Hid (Cs y2 y1.heap.size 0 x.cells) := Lib.hid (by have := hb2.all; simpa using this)
        clear hb2 hf2 f2
        generalize y1.heap.size = sb at HSB ⊢
        have c16 := HZ2.out.fat7
        go_wp2_with (first | ((with_reducible refine selD 114 ?_); go_must (refine wpList_load_cs _ rfl 53 _ rfl sb 0 x.cells rfl (Tryz.isAgg53 _) (Tryz.sizeOf53 _) HSB.out ?_)) | ((with_reducible refine selD 115 ?_); go_must (refine wpList_one _ rfl 27 53 _ rfl _ x.cells rfl (by rfl) _ _ 7 (by rfl) (by rfl) (by rfl) (by rfl) (by decide) (by decide) HLEN.out ?_; refine Hid.out ?_)))
        refine Lib.hid ?_
        have HN : Hid (Cs (y2.alloc (.cells x.cells.toArray 53)) y2.heap.size 0 x.cells) := Lib.hid (by have := (Blk.new y2 53 x.cells.toArray).all; simpa using this)
        have HZ3 := Lib.hid (HZ2.out.fr0 ((Fr.refl [] y2).alloc (.cells x.cells.toArray 53)))
        clear c16
        generalize y2.alloc (.cells x.cells.toArray 53) = y3 at HN HZ3 ⊢
        generalize y2.heap.size = nb at HN ⊢
        go_wp2_with ((with_reducible refine selD 116 ?_); go_must (refine wpList_push w _ rfl _ _ 27 rfl 53 _ _ 7 _ (by rfl) (by rfl) (by rfl) (by rfl) rfl (by rfl) (by decide) v k _ rfl HZ3.out.r7 HZ3.out.st.fr nb 1 1 x.cells rfl (by rw [HLEN.out]) HN.out HONE.out (by omega) (by omega) (by decide) ?_; intro v' y4 ho4 hf4 hg4; refine Hid.out ?_))
        refine Lib.hid ?_
        obtain ⟨A9, c9, rfl⟩ := own_shape ho4
        have HZ4 := Lib.hid (HZ3.out.push7 HX.out ho4 hg4)
        have HB4 := blk_grown HZ3.out.fbk HZ3.out.r7 hg4 (by decide)
        have c16 := fat HB4 HFPL.out (i := 16) (p := [.slice A0 F.imports.length c0x, .slice A1 F.packages.length c1, .slice A2 F.files.length c2, .slice A3 n3 k3, .slice A4 n4 k4, .slice A5 n5 k5, .slice A6 n6 k6]) (q := [nilS, nilS, nilS, nilS]) (v := v) rfl
        have z16 := HB4.frozen 16
        clear ho4 hf4 hg4 HB4
        go_wp2_with fail
        clear c16 z16
        generalize y4.setCell ⟨fb, 16, none⟩ (.slice A9 (k + 1) c9) = y5 at HZ4 ⊢
        go_wp2_with fail
        go_roundw
        case rel => exact ⟨k + 1, _, by omega, by go_num, by rw [HIDE.out]; go_num, HZ4.out⟩
        case measure => simp [intOf]; omega
      · have e : k = F.refs.length := by omega
        subst e
        obtain ⟨x7, hx7⟩ : ∃ u, u = v := ⟨_, rfl⟩
        subst hx7
        have RZ1 := Lib.hid HZ.out
        clear HZ RZ0
        have c5 := RZ1.out.cb5 5 _ rfl
        go_wp2_with fail
        clear c5
        go_loopw [123] (fun c0 y => ∃ (k : Nat) (v : Value), k ≤ F.refFlags.length ∧ c0 = .int .i64 k ∧ Rz F w w.heap.size cb fb (.slice A0 F.imports.length c0x) (.slice A1 F.packages.length c1) (.slice A2 F.files.length c2) (.slice A3 n3 k3) (.slice A4 n4 k4) (.slice A5 n5 k5) (.slice A6 n6 k6) x7 v nilS nilS nilS F.refs.length k 0 0 0 y) (fun c _ => F.refFlags.length - (intOf c).toNat)
        case atStart => exact ⟨0, nilS, Nat.zero_le _, rfl, RZ1.out⟩
        case round =>
          obtain ⟨k, v, hk, rfl, hz⟩ := hrel
          have HZ := Lib.hid hz
          clear hz
          by_cases hlt : k < F.refFlags.length
          · obtain ⟨x, hx⟩ : ∃ x, F.refFlags[k]? = some x := ⟨_, List.getElem?_eq_getElem hlt⟩
            have HX := Lib.hid hx
            clear hx
            have HONE : Hid (∀ u ∈ x.cells, u.oneCell' = true) := Lib.hid (flg_one (x := x) (cs := x.cells) ⟨(HE.out.flags k x HX.out).1, rfl⟩)
            have HLEN : Hid (x.cells.length = 4) := Lib.hid (rfl)
            have hk60 : (k : Int) < 60 := by omega
            go_wp2_with fail
            have HC : Hid (∀ z, Blk z fb 33 (fcells F.fp F.flags [.slice A0 F.imports.length c0x, .slice A1 F.packages.length c1, .slice A2 F.files.length c2, .slice A3 n3 k3, .slice A4 n4 k4, .slice A5 n5 k5, .slice A6 n6 k6, x7, v, nilS, nilS, nilS]).toArray → z.cell? ⟨fb, 17, none⟩ = some v) := Lib.hid (fun z hz => fat hz HFPL.out (i := 17) (p := [.slice A0 F.imports.length c0x, .slice A1 F.packages.length c1, .slice A2 F.files.length c2, .slice A3 n3 k3, .slice A4 n4 k4, .slice A5 n5 k5, .slice A6 n6 k6, x7]) (q := [nilS, nilS, nilS]) (v := v) rfl)
            refine wp_region_plan 8 [(0, true), (1, true), (2, true), (3, true), (4, false), (5, false), (6, false), (7, true)] (fun z => Blk z fb 33 (fcells F.fp F.flags [.slice A0 F.imports.length c0x, .slice A1 F.packages.length c1, .slice A2 F.files.length c2, .slice A3 n3 k3, .slice A4 n4 k4, .slice A5 n5 k5, .slice A6 n6 k6, x7, v, nilS, nilS, nilS]).toArray) (by kernel_rfl) (by kernel_rfl) HZ.out.fbk.drew ?_
            refine plan_q (.pointer (some ⟨fb, 17, none⟩)) (by rfl) rfl (by intro z _; go_simp) ?_
            simp only [Act.put, List.setIfInBounds_toArray, List.set_cons_zero, List.set_cons_succ]
            refine plan_cell 28 _ ⟨fb, 17, none⟩ v (by rfl) rfl rfl rfl (fun _ => by kernel_rfl) (fun z hz => HC.out z hz) ?_
            simp only [Act.put, List.setIfInBounds_toArray, List.set_cons_zero, List.set_cons_succ]
            refine plan_move _ (.slice (some ⟨g, 0, none⟩) l.length c) (by rfl) rfl rfl rfl ?_
            refine plan_move _ (.int .i64 k) (by rfl) rfl rfl rfl ?_
            simp only [Act.put, List.setIfInBounds_toArray, List.set_cons_zero, List.set_cons_succ]
            refine plan_l (by rfl) ?_ rfl
            refine step_call2 rfl 29 _ _ _ rfl (.slice (some ⟨g, 0, none⟩) l.length c) (.int .i64 k) rfl rfl (by kernel_rfl) (fileFlags_any HE.out (HI.out.fr HZ.out.st.fr.drew) k x HX.out) ?_
            rintro e y1 ⟨rfl, _, f1⟩
            have HZ1 := Lib.hid (HZ.out.fr0 ((Fr.refl [] wr).drew.trans f1))
            clear f1
            refine ⟨_, rfl, HZ1.out.fbk, ?_⟩
            simp only [Act.put, List.setIfInBounds_toArray, List.set_cons_zero, List.set_cons_succ]
            refine plan_l (by rfl) ?_ rfl
            refine step_one rfl 28 92 _ rfl (.agg x.cells.toArray) x.cells rfl rfl _ _ 4 (by rfl) (by rfl) (by rfl) (by rfl) (by decide) (by decide) HLEN.out ?_
            have HN : Hid (Cs (y1.alloc (.cells (x.cells).toArray 92)) y1.heap.size 0 x.cells) := Lib.hid (by have := (Blk.new y1 92 (x.cells).toArray).all; simpa using this)
            have HZ3 := Lib.hid (HZ1.out.fr0 ((Fr.refl [] y1).alloc (.cells (x.cells).toArray 92)))
            generalize y1.alloc (.cells (x.cells).toArray 92) = y3 at HN HZ3 ⊢
            generalize y1.heap.size = nb at HN ⊢
            refine ⟨HZ3.out.fbk, ?_⟩
            simp only [Act.put, List.setIfInBounds_toArray, List.set_cons_zero, List.set_cons_succ]
            refine plan_l (by rfl) ?_ rfl
            refine step_pushB w.heap.size rfl _ _ 28 rfl 92 _ _ 4 _ (by rfl) (by rfl) (by rfl) (by rfl) rfl (by rfl) (by decide) v k _ rfl HZ3.out.r8 HZ3.out.st.fr.size nb 1 1 x.cells rfl (by rw [HLEN.out]) HN.out HONE.out (by omega) (by omega) (by decide) ?_
            intro v' y4 ho4 hg4
            obtain ⟨A9, c9, rfl⟩ := own_shape ho4
            have HZ4 := Lib.hid (HZ3.out.push8 HX.out ho4 hg4)
            have HB4 := Lib.hid (blk_grown HZ3.out.fbk HZ3.out.r8 hg4 (by decide))
            clear ho4 hg4
            refine ⟨HB4.out, ?_⟩
            simp only [Act.put, List.setIfInBounds_toArray, List.set_cons_zero, List.set_cons_succ]
            refine plan_q (.pointer (some ⟨fb, 17, none⟩)) (by rfl) rfl (by intro z _; go_simp) ?_
            simp only [Act.put, List.setIfInBounds_toArray, List.set_cons_zero, List.set_cons_succ]
            refine plan_nil ?_
            refine tail_store 28 _ _ ⟨fb, 17, none⟩ A9 (k + 1) c9 v rfl rfl rfl rfl (by kernel_rfl) (HC.out _ HB4.out) (HB4.out.frozen 17) ?_
            clear HB4 HC HZ1 HZ3 HN
            generalize y4.setCell ⟨fb, 17, none⟩ (.slice A9 (k + 1) c9) = y5 at HZ4 ⊢
            simp only [Act.put, List.setIfInBounds_toArray, List.set_cons_zero, List.set_cons_succ]
            go_wp2_with fail
            go_roundw
            case rel => exact ⟨k + 1, _, by omega, by go_num, HZ4.out⟩
            case measure => simp [intOf]; omega
          · have e : k = F.refFlags.length := by omega
            subst e
            obtain ⟨x8, hx8⟩ : ∃ u, u = v := ⟨_, rfl⟩
            subst hx8
            have RZ2 := Lib.hid HZ.out
            clear HZ RZ1
            have c6 := RZ2.out.cb5 6 _ rfl
            go_wp2_with fail
            clear c6
            go_loopw [137] (fun c0 y => ∃ (k : Nat) (v : Value), k ≤ F.refNames.length ∧ c0 = .int .i64 k ∧ Rz F w w.heap.size cb fb (.slice A0 F.imports.length c0x) (.slice A1 F.packages.length c1) (.slice A2 F.files.length c2) (.slice A3 n3 k3) (.slice A4 n4 k4) (.slice A5 n5 k5) (.slice A6 n6 k6) x7 x8 nilS nilS v F.refs.length F.refFlags.length 0 0 k y) (fun c _ => F.refNames.length - (intOf c).toNat)
            case atStart => exact ⟨0, nilS, Nat.zero_le _, rfl, RZ2.out⟩
            case round =>
              obtain ⟨k, v, hk, rfl, hz⟩ := hrel
              have HZ := Lib.hid hz
              clear hz
              by_cases hlt : k < F.refNames.length
              · obtain ⟨x, hx⟩ : ∃ x, F.refNames[k]? = some x := ⟨_, List.getElem?_eq_getElem hlt⟩
                have HX := Lib.hid hx
                clear hx
                have HONE : Hid (∀ u ∈ x.cells, u.oneCell' = true) := Lib.hid (nam_one (x := x) (cs := x.cells) ⟨(HE.out.names k x HX.out).1, rfl⟩)
                have HLEN : Hid (x.cells.length = 3) := Lib.hid (rfl)
                have hk60 : (k : Int) < 60 := by omega
                go_wp2_with fail
                have HC : Hid (∀ z, Blk z fb 33 (fcells F.fp F.flags [.slice A0 F.imports.length c0x, .slice A1 F.packages.length c1, .slice A2 F.files.length c2, .slice A3 n3 k3, .slice A4 n4 k4, .slice A5 n5 k5, .slice A6 n6 k6, x7, x8, nilS, nilS, v]).toArray → z.cell? ⟨fb, 20, none⟩ = some v) := Lib.hid (fun z hz => fat hz HFPL.out (i := 20) (p := [.slice A0 F.imports.length c0x, .slice A1 F.packages.length c1, .slice A2 F.files.length c2, .slice A3 n3 k3, .slice A4 n4 k4, .slice A5 n5 k5, .slice A6 n6 k6, x7, x8, nilS, nilS]) (q := []) (v := v) rfl)
                refine wp_region_plan 8 [(0, true), (1, true), (2, true), (3, true), (4, false), (5, false), (6, false), (7, true)] (fun z => Blk z fb 33 (fcells F.fp F.flags [.slice A0 F.imports.length c0x, .slice A1 F.packages.length c1, .slice A2 F.files.length c2, .slice A3 n3 k3, .slice A4 n4 k4, .slice A5 n5 k5, .slice A6 n6 k6, x7, x8, nilS, nilS, v]).toArray) (by kernel_rfl) (by kernel_rfl) HZ.out.fbk.drew ?_
                refine plan_q (.pointer (some ⟨fb, 20, none⟩)) (by rfl) rfl (by intro z _; go_simp) ?_
                simp only [Act.put, List.setIfInBounds_toArray, List.set_cons_zero, List.set_cons_succ]
                refine plan_cell 31 _ ⟨fb, 20, none⟩ v (by rfl) rfl rfl rfl (fun _ => by kernel_rfl) (fun z hz => HC.out z hz) ?_
                simp only [Act.put, List.setIfInBounds_toArray, List.set_cons_zero, List.set_cons_succ]
                refine plan_move _ (.slice (some ⟨g, 0, none⟩) l.length c) (by rfl) rfl rfl rfl ?_
                refine plan_move _ (.int .i64 k) (by rfl) rfl rfl rfl ?_
                simp only [Act.put, List.setIfInBounds_toArray, List.set_cons_zero, List.set_cons_succ]
                refine plan_l (by rfl) ?_ rfl
                refine step_call2 rfl 30 _ _ _ rfl (.slice (some ⟨g, 0, none⟩) l.length c) (.int .i64 k) rfl rfl (by kernel_rfl) (fileRefName_any HE.out (HI.out.fr HZ.out.st.fr.drew) k x HX.out) ?_
                rintro e y1 ⟨rfl, _, f1⟩
                have HZ1 := Lib.hid (HZ.out.fr0 ((Fr.refl [] wr).drew.trans f1))
                clear f1
                refine ⟨_, rfl, HZ1.out.fbk, ?_⟩
                simp only [Act.put, List.setIfInBounds_toArray, List.set_cons_zero, List.set_cons_succ]
                refine plan_l (by rfl) ?_ rfl
                refine step_one rfl 31 57 _ rfl (.agg x.cells.toArray) x.cells rfl rfl _ _ 3 (by rfl) (by rfl) (by rfl) (by rfl) (by decide) (by decide) HLEN.out ?_
                have HN : Hid (Cs (y1.alloc (.cells (x.cells).toArray 57)) y1.heap.size 0 x.cells) := Lib.hid (by have := (Blk.new y1 57 (x.cells).toArray).all; simpa using this)
                have HZ3 := Lib.hid (HZ1.out.fr0 ((Fr.refl [] y1).alloc (.cells (x.cells).toArray 57)))
                generalize y1.alloc (.cells (x.cells).toArray 57) = y3 at HN HZ3 ⊢
                generalize y1.heap.size = nb at HN ⊢
                refine ⟨HZ3.out.fbk, ?_⟩
                simp only [Act.put, List.setIfInBounds_toArray, List.set_cons_zero, List.set_cons_succ]
                refine plan_l (by rfl) ?_ rfl
                refine step_pushB w.heap.size rfl _ _ 31 rfl 57 _ _ 3 _ (by rfl) (by rfl) (by rfl) (by rfl) rfl (by rfl) (by decide) v k _ rfl HZ3.out.r11 HZ3.out.st.fr.size nb 1 1 x.cells rfl (by rw [HLEN.out]) HN.out HONE.out (by omega) (by omega) (by decide) ?_
                intro v' y4 ho4 hg4
                obtain ⟨A9, c9, rfl⟩ := own_shape ho4
                have HZ4 := Lib.hid (HZ3.out.push11 HX.out ho4 hg4)
                have HB4 := Lib.hid (blk_grown HZ3.out.fbk HZ3.out.r11 hg4 (by decide))
                clear ho4 hg4
                refine ⟨HB4.out, ?_⟩
                simp only [Act.put, List.setIfInBounds_toArray, List.set_cons_zero, List.set_cons_succ]
                refine plan_q (.pointer (some ⟨fb, 20, none⟩)) (by rfl) rfl (by intro z _; go_simp) ?_
                simp only [Act.put, List.setIfInBounds_toArray, List.set_cons_zero, List.set_cons_succ]
                refine plan_nil ?_
                refine tail_store 31 _ _ ⟨fb, 20, none⟩ A9 (k + 1) c9 v rfl rfl rfl rfl (by kernel_rfl) (HC.out _ HB4.out) (HB4.out.frozen 20) ?_
                clear HB4 HC HZ1 HZ3 HN
                generalize y4.setCell ⟨fb, 20, none⟩ (.slice A9 (k + 1) c9) = y5 at HZ4 ⊢
                simp only [Act.put, List.setIfInBounds_toArray, List.set_cons_zero, List.set_cons_succ]
                go_wp2_with fail
                go_roundw
                case rel => exact ⟨k + 1, _, by omega, by go_num, HZ4.out⟩
                case measure => simp [intOf]; omega
              · have e : k = F.refNames.length := by omega
                subst e
                obtain ⟨x11, hx11⟩ : ∃ u, u = v := ⟨_, rfl⟩
                subst hx11
                have RZ3 := Lib.hid HZ.out
                clear HZ RZ2
                go_wp2_with fail
                go_loopw [150] (fun c0 y => ∃ (k : Nat) (v : Value), k ≤ F.hashes64.length ∧ c0 = .int .i64 k ∧ Rz F w w.heap.size cb fb (.slice A0 F.imports.length c0x) (.slice A1 F.packages.length c1) (.slice A2 F.files.length c2) (.slice A3 n3 k3) (.slice A4 n4 k4) (.slice A5 n5 k5) (.slice A6 n6 k6) x7 x8 v nilS x11 F.refs.length F.refFlags.length k 0 F.refNames.length y) (fun c _ => F.hashes64.length - (intOf c).toNat)
                case atStart => exact ⟨0, nilS, Nat.zero_le _, rfl, RZ3.out⟩
                case round =>
                  obtain ⟨k, v, hk, rfl, hz⟩ := hrel
                  have HZ := Lib.hid hz
                  clear hz
                  by_cases hlt : k < F.hashes64.length
                  · obtain ⟨x, hx⟩ : ∃ x, F.hashes64[k]? = some x := ⟨_, List.getElem?_eq_getElem hlt⟩
                    have HX := Lib.hid hx
                    clear hx
                    have HONE : Hid (∀ u ∈ (U64c x), u.oneCell' = true) := Lib.hid (by intro u hu; simp only [U64c, List.mem_singleton] at hu; subst hu; rfl)
                    have HLEN : Hid ((U64c x).length = 1) := Lib.hid (rfl)
                    have hk60 : (k : Int) < 60 := by omega
                    go_wp2_with fail
                    have HC : Hid (∀ z, Blk z fb 33 (fcells F.fp F.flags [.slice A0 F.imports.length c0x, .slice A1 F.packages.length c1, .slice A2 F.files.length c2, .slice A3 n3 k3, .slice A4 n4 k4, .slice A5 n5 k5, .slice A6 n6 k6, x7, x8, v, nilS, x11]).toArray → z.cell? ⟨fb, 18, none⟩ = some v) := Lib.hid (fun z hz => fat hz HFPL.out (i := 18) (p := [.slice A0 F.imports.length c0x, .slice A1 F.packages.length c1, .slice A2 F.files.length c2, .slice A3 n3 k3, .slice A4 n4 k4, .slice A5 n5 k5, .slice A6 n6 k6, x7, x8]) (q := [nilS, x11]) (v := v) rfl)
                    refine wp_region_plan 9 [(0, true), (1, true), (2, true), (3, true), (4, true), (5, false), (6, false), (7, false), (8, true)] (fun z => Blk z fb 33 (fcells F.fp F.flags [.slice A0 F.imports.length c0x, .slice A1 F.packages.length c1, .slice A2 F.files.length c2, .slice A3 n3 k3, .slice A4 n4 k4, .slice A5 n5 k5, .slice A6 n6 k6, x7, x8, v, nilS, x11]).toArray) (by kernel_rfl) (by kernel_rfl) HZ.out.fbk.drew ?_
                    refine plan_q (.pointer (some ⟨fb, 18, none⟩)) (by rfl) rfl (by intro z _; go_simp) ?_
                    simp only [Act.put, List.setIfInBounds_toArray, List.set_cons_zero, List.set_cons_succ]
                    refine plan_cell 29 _ ⟨fb, 18, none⟩ v (by rfl) rfl rfl rfl (fun _ => by kernel_rfl) (fun z hz => HC.out z hz) ?_
                    simp only [Act.put, List.setIfInBounds_toArray, List.set_cons_zero, List.set_cons_succ]
                    refine plan_move _ (.slice (some ⟨g, 0, none⟩) l.length c) (by rfl) rfl rfl rfl ?_
                    refine plan_move _ (.int .i64 k) (by rfl) rfl rfl rfl ?_
                    simp only [Act.put, List.setIfInBounds_toArray, List.set_cons_zero, List.set_cons_succ]
                    refine plan_q (.int .u32 k) (by rfl) rfl (by intro z _; go_simp; exact wrapU _ (by omega) (by omega)) ?_
                    simp only [Act.put, List.setIfInBounds_toArray, List.set_cons_zero, List.set_cons_succ]
                    refine plan_l (by rfl) ?_ rfl
                    refine step_call2 rfl 31 _ _ _ rfl (.slice (some ⟨g, 0, none⟩) l.length c) (.int .u32 k) rfl rfl (by kernel_rfl) (fileHash64_any HE.out (HI.out.fr HZ.out.st.fr.drew) k x HX.out) ?_
                    rintro e y1 ⟨rfl, _, f1⟩
                    have HZ1 := Lib.hid (HZ.out.fr0 ((Fr.refl [] wr).drew.trans f1))
                    clear f1
                    refine ⟨_, rfl, HZ1.out.fbk, ?_⟩
                    simp only [Act.put, List.setIfInBounds_toArray, List.set_cons_zero, List.set_cons_succ]
                    refine plan_l (by rfl) ?_ rfl
                    refine step_one rfl 29 95 _ rfl (.int .u64 x) (U64c x) rfl rfl _ _ 1 (by rfl) (by rfl) (by rfl) (by rfl) (by decide) (by decide) HLEN.out ?_
                    have HN : Hid (Cs (y1.alloc (.cells (U64c x).toArray 95)) y1.heap.size 0 (U64c x)) := Lib.hid (by have := (Blk.new y1 95 (U64c x).toArray).all; simpa using this)
                    have HZ3 := Lib.hid (HZ1.out.fr0 ((Fr.refl [] y1).alloc (.cells (U64c x).toArray 95)))
                    generalize y1.alloc (.cells (U64c x).toArray 95) = y3 at HN HZ3 ⊢
                    generalize y1.heap.size = nb at HN ⊢
                    refine ⟨HZ3.out.fbk, ?_⟩
                    simp only [Act.put, List.setIfInBounds_toArray, List.set_cons_zero, List.set_cons_succ]
                    refine plan_l (by rfl) ?_ rfl
                    refine step_pushB w.heap.size rfl _ _ 29 rfl 95 _ _ 1 _ (by rfl) (by rfl) (by rfl) (by rfl) rfl (by rfl) (by decide) v k _ rfl HZ3.out.r9 HZ3.out.st.fr.size nb 1 1 (U64c x) rfl (by rw [HLEN.out]) HN.out HONE.out (by omega) (by omega) (by decide) ?_
                    intro v' y4 ho4 hg4
                    obtain ⟨A9, c9, rfl⟩ := own_shape ho4
                    have HZ4 := Lib.hid (HZ3.out.push9 HX.out ho4 hg4)
                    have HB4 := Lib.hid (blk_grown HZ3.out.fbk HZ3.out.r9 hg4 (by decide))
                    clear ho4 hg4
                    refine ⟨HB4.out, ?_⟩
                    simp only [Act.put, List.setIfInBounds_toArray, List.set_cons_zero, List.set_cons_succ]
                    refine plan_q (.pointer (some ⟨fb, 18, none⟩)) (by rfl) rfl (by intro z _; go_simp) ?_
                    simp only [Act.put, List.setIfInBounds_toArray, List.set_cons_zero, List.set_cons_succ]
                    refine plan_nil ?_
                    refine tail_store 29 _ _ ⟨fb, 18, none⟩ A9 (k + 1) c9 v rfl rfl rfl rfl (by kernel_rfl) (HC.out _ HB4.out) (HB4.out.frozen 18) ?_
                    clear HB4 HC HZ1 HZ3 HN
                    generalize y4.setCell ⟨fb, 18, none⟩ (.slice A9 (k + 1) c9) = y5 at HZ4 ⊢
                    simp only [Act.put, List.setIfInBounds_toArray, List.set_cons_zero, List.set_cons_succ]
                    go_wp2_with fail
                    go_roundw
                    case rel => exact ⟨k + 1, _, by omega, by go_num, HZ4.out⟩
                    case measure => simp [intOf]; omega
                  · have e : k = F.hashes64.length := by omega
                    subst e
                    obtain ⟨x9, hx9⟩ : ∃ u, u = v := ⟨_, rfl⟩
                    subst hx9
                    have RZ4 := Lib.hid HZ.out
                    clear HZ RZ3
                    go_wp2_with fail
                    go_loopw [164] (fun c0 y => ∃ (k : Nat) (v : Value), k ≤ F.hashes.length ∧ c0 = .int .i64 k ∧ Rz F w w.heap.size cb fb (.slice A0 F.imports.length c0x) (.slice A1 F.packages.length c1) (.slice A2 F.files.length c2) (.slice A3 n3 k3) (.slice A4 n4 k4) (.slice A5 n5 k5) (.slice A6 n6 k6) x7 x8 x9 v x11 F.refs.length F.refFlags.length F.hashes64.length k F.refNames.length y) (fun c _ => F.hashes.length - (intOf c).toNat)
                    case atStart => exact ⟨0, nilS, Nat.zero_le _, rfl, RZ4.out⟩
                    case round =>
                      obtain ⟨k, v, hk, rfl, hz⟩ := hrel
                      have HZ := Lib.hid hz
                      clear hz
                      by_cases hlt : k < F.hashes.length
                      · obtain ⟨x, hx⟩ : ∃ x, F.hashes[k]? = some x := ⟨_, List.getElem?_eq_getElem hlt⟩
                        have HX := Lib.hid hx
                        clear hx
                        have HONE : Hid (∀ u ∈ (Lib.byteCells x), u.oneCell' = true) := Lib.hid (bc_one x)
                        have HLEN : Hid ((Lib.byteCells x).length = 16) := Lib.hid (by rw [bc_len]; exact (HE.out.h128 k x HX.out).1)
                        have hk60 : (k : Int) < 60 := by omega
                        go_wp2_with fail
                        have HC : Hid (∀ z, Blk z fb 33 (fcells F.fp F.flags [.slice A0 F.imports.length c0x, .slice A1 F.packages.length c1, .slice A2 F.files.length c2, .slice A3 n3 k3, .slice A4 n4 k4, .slice A5 n5 k5, .slice A6 n6 k6, x7, x8, x9, v, x11]).toArray → z.cell? ⟨fb, 19, none⟩ = some v) := Lib.hid (fun z hz => fat hz HFPL.out (i := 19) (p := [.slice A0 F.imports.length c0x, .slice A1 F.packages.length c1, .slice A2 F.files.length c2, .slice A3 n3 k3, .slice A4 n4 k4, .slice A5 n5 k5, .slice A6 n6 k6, x7, x8, x9]) (q := [x11]) (v := v) rfl)
                        refine wp_region_plan 9 [(0, true), (1, true), (2, true), (3, true), (4, true), (5, false), (6, false), (7, false), (8, true)] (fun z => Blk z fb 33 (fcells F.fp F.flags [.slice A0 F.imports.length c0x, .slice A1 F.packages.length c1, .slice A2 F.files.length c2, .slice A3 n3 k3, .slice A4 n4 k4, .slice A5 n5 k5, .slice A6 n6 k6, x7, x8, x9, v, x11]).toArray) (by kernel_rfl) (by kernel_rfl) HZ.out.fbk.drew ?_
                        refine plan_q (.pointer (some ⟨fb, 19, none⟩)) (by rfl) rfl (by intro z _; go_simp) ?_
                        simp only [Act.put, List.setIfInBounds_toArray, List.set_cons_zero, List.set_cons_succ]
                        refine plan_cell 30 _ ⟨fb, 19, none⟩ v (by rfl) rfl rfl rfl (fun _ => by kernel_rfl) (fun z hz => HC.out z hz) ?_
                        simp only [Act.put, List.setIfInBounds_toArray, List.set_cons_zero, List.set_cons_succ]
                        refine plan_move _ (.slice (some ⟨g, 0, none⟩) l.length c) (by rfl) rfl rfl rfl ?_
                        refine plan_move _ (.int .i64 k) (by rfl) rfl rfl rfl ?_
                        simp only [Act.put, List.setIfInBounds_toArray, List.set_cons_zero, List.set_cons_succ]
                        refine plan_q (.int .u32 k) (by rfl) rfl (by intro z _; go_simp; exact wrapU _ (by omega) (by omega)) ?_
                        simp only [Act.put, List.setIfInBounds_toArray, List.set_cons_zero, List.set_cons_succ]
                        refine plan_l (by rfl) ?_ rfl
                        refine step_call2 rfl 32 _ _ _ rfl (.slice (some ⟨g, 0, none⟩) l.length c) (.int .u32 k) rfl rfl (by kernel_rfl) (fileHash_any HE.out (HI.out.fr HZ.out.st.fr.drew) k x HX.out) ?_
                        rintro e y1 ⟨rfl, _, f1⟩
                        have HZ1 := Lib.hid (HZ.out.fr0 ((Fr.refl [] wr).drew.trans f1))
                        clear f1
                        refine ⟨_, rfl, HZ1.out.fbk, ?_⟩
                        simp only [Act.put, List.setIfInBounds_toArray, List.set_cons_zero, List.set_cons_succ]
                        refine plan_l (by rfl) ?_ rfl
                        refine step_one rfl 30 97 _ rfl (.agg (Lib.byteCells x).toArray) (Lib.byteCells x) rfl rfl _ _ 16 (by rfl) (by rfl) (by rfl) (by rfl) (by decide) (by decide) HLEN.out ?_
                        have HN : Hid (Cs (y1.alloc (.cells (Lib.byteCells x).toArray 97)) y1.heap.size 0 (Lib.byteCells x)) := Lib.hid (by have := (Blk.new y1 97 (Lib.byteCells x).toArray).all; simpa using this)
                        have HZ3 := Lib.hid (HZ1.out.fr0 ((Fr.refl [] y1).alloc (.cells (Lib.byteCells x).toArray 97)))
                        generalize y1.alloc (.cells (Lib.byteCells x).toArray 97) = y3 at HN HZ3 ⊢
                        generalize y1.heap.size = nb at HN ⊢
                        refine ⟨HZ3.out.fbk, ?_⟩
                        simp only [Act.put, List.setIfInBounds_toArray, List.set_cons_zero, List.set_cons_succ]
                        refine plan_l (by rfl) ?_ rfl
                        refine step_pushB w.heap.size rfl _ _ 30 rfl 97 _ _ 16 _ (by rfl) (by rfl) (by rfl) (by rfl) rfl (by rfl) (by decide) v k _ rfl HZ3.out.r10 HZ3.out.st.fr.size nb 1 1 (Lib.byteCells x) rfl (by rw [HLEN.out]) HN.out HONE.out (by omega) (by omega) (by decide) ?_
                        intro v' y4 ho4 hg4
                        obtain ⟨A9, c9, rfl⟩ := own_shape ho4
                        have HZ4 := Lib.hid (HZ3.out.push10 HX.out ho4 hg4)
                        have HB4 := Lib.hid (blk_grown HZ3.out.fbk HZ3.out.r10 hg4 (by decide))
                        clear ho4 hg4
                        refine ⟨HB4.out, ?_⟩
                        simp only [Act.put, List.setIfInBounds_toArray, List.set_cons_zero, List.set_cons_succ]
                        refine plan_q (.pointer (some ⟨fb, 19, none⟩)) (by rfl) rfl (by intro z _; go_simp) ?_
                        simp only [Act.put, List.setIfInBounds_toArray, List.set_cons_zero, List.set_cons_succ]
                        refine plan_nil ?_
                        refine tail_store 30 _ _ ⟨fb, 19, none⟩ A9 (k + 1) c9 v rfl rfl rfl rfl (by kernel_rfl) (HC.out _ HB4.out) (HB4.out.frozen 19) ?_
                        clear HB4 HC HZ1 HZ3 HN
                        generalize y4.setCell ⟨fb, 19, none⟩ (.slice A9 (k + 1) c9) = y5 at HZ4 ⊢
                        simp only [Act.put, List.setIfInBounds_toArray, List.set_cons_zero, List.set_cons_succ]
                        go_wp2_with fail
                        go_roundw
                        case rel => exact ⟨k + 1, _, by omega, by go_num, HZ4.out⟩
                        case measure => simp [intOf]; omega
                      · have e : k = F.hashes.length := by omega
                        subst e
                        obtain ⟨x10, hx10⟩ : ∃ u, u = v := ⟨_, rfl⟩
                        subst hx10
                        have RZ5 := Lib.hid HZ.out
                        clear HZ RZ4
                        obtain ⟨rcs, hrb, hrs⟩ := RZ5.out.st.rbk
                        have HRB := Lib.hid hrb; have HRS := Lib.hid hrs
                        have HONE := Lib.hid RZ5.out.cs_one
                        have HL21 : Hid ((fcells F.fp F.flags [.slice A0 F.imports.length c0x, .slice A1 F.packages.length c1, .slice A2 F.files.length c2, .slice A3 n3 k3, .slice A4 n4 k4, .slice A5 n5 k5, .slice A6 n6 k6, x7, x8, x9, x10, x11]).length = 21) := Lib.hid (fcells_len HFPL.out)
                        have hall := RZ5.out.fbk.all
                        simp only [List.toList_toArray] at hall
                        have HALL := Lib.hid hall
                        clear hrb hrs hall
                        go_wp2_with (first | ((with_reducible refine selD 177 ?_); go_must (refine wpList_load_cs _ rfl 33 _ rfl fb 0 (fcells F.fp F.flags [.slice A0 F.imports.length c0x, .slice A1 F.packages.length c1, .slice A2 F.files.length c2, .slice A3 n3 k3, .slice A4 n4 k4, .slice A5 n5 k5, .slice A6 n6 k6, x7, x8, x9, x10, x11]) rfl (Tryz.isAgg33 _) (by rw [HL21.out]; exact Tryz.sizeOf33 _) HALL.out ?_)) | ((with_reducible refine selS 33 ?_); go_must (refine wpList_store_all _ rfl 33 _ _ rfl w.heap.size 33 rcs (fcells F.fp F.flags [.slice A0 F.imports.length c0x, .slice A1 F.packages.length c1, .slice A2 F.files.length c2, .slice A3 n3 k3, .slice A4 n4 k4, .slice A5 n5 k5, .slice A6 n6 k6, x7, x8, x9, x10, x11]) rfl rfl (by rw [HL21.out]; exact Tryz.sizeOf33 _) HRB.out (by rw [HL21.out]; exact HRS.out) HONE.out ?_; intro wf hbf hff; refine Hid.out ?_)))
                        refine Lib.hid ?_
                        have HBF := Lib.hid hbf
                        have RZ6 := Lib.hid (RZ5.out.frR hff HRB.out hbf (by rw [List.size_toArray, HL21.out]) (Nat.le_refl _))
                        clear hbf hff
                        go_wp2_with fail
                        exact bodyPost_ret (results_cell _ 6 33 rfl _ w.heap.size 0 rfl _ (fcells F.fp F.flags [.slice A0 F.imports.length c0x, .slice A1 F.packages.length c1, .slice A2 F.files.length c2, .slice A3 n3 k3, .slice A4 n4 k4, .slice A5 n5 k5, .slice A6 n6 k6, x7, x8, x9, x10, x11]) (Tryz.isAgg33 _) (by rw [HL21.out]; exact Tryz.sizeOf33 _) (by have := HBF.out.all; simpa using this)) rfl ⟨_, rfl, RZ6.out.fil HE.out, RZ6.out.st.fr⟩
end

end Go.Proofs.YtnhafphgkipldaaGreatDoor
