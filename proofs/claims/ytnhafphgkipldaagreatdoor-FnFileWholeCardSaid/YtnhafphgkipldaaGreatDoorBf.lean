/- BuildFile: what it gives is a slice of the file's bytes. Conditions: the file is within the bounds of the statement. -/
import Derived.Test.YtnhafphgkipldaaGreatDoorEnc
namespace Go.Proofs.YtnhafphgkipldaaGreatDoor
open Go Go.RowKit

theorem Blk.below {w w' : World} {B g : Nat} {T : TypeId} {cs : Array Value} (hb : Below B w w') (h : Blk w g T cs) (hg : g < B) : Blk w' g T cs := (hb.block g hg).trans h
theorem wpList_build3 {P : Program} (w : World) {ops : Array Oper} {rest : List Oper} {o : Oper} {a : Act} {Q : Exit → Act → World → Prop}
    (hg : o.guard = none) (t : TypeId) (x y z : Operand) (hop : o.op = Op.build t #[(0, x), (1, y), (2, z)]) (vx vy vz r : Value) (hx : a.eval x = vx) (hy : a.eval y = vy) (hz : a.eval z = vz) (hb : (Instr.build t #[(0, vx), (1, vy), (2, vz)]).run P w = .ok r w) (hK : wpList P ops Q rest (a.put o.dst r) w) :
    wpList P ops Q (o :: rest) a w := by
  refine wpList_plain hg fun K' hK' => ?_
  unfold Oper.wp
  simp [execOp, hop, hx, hy, hz, hb, Result.andThen]
  exact hK' _ _ hK
theorem build64 (fp : By) (fl : Int) (h : fp.length = 8) (W : World) : (Instr.build 64 #[(0, .string magic), (1, .agg (Lib.byteCells fp).toArray), (2, .int .u32 fl)]).run Tryz.prog W = .ok (.agg (hcells magic fp fl zero19).toArray) W := by
  match fp, h with
  | [a, b, c, d, e, f, g, h], _ => show _ = _; kernel_rfl
theorem hcells_len (fp : By) (fl : Int) (os : List Int) (h : fp.length = 8) (ho : os.length = 19) : (hcells magic fp fl os).length = 29 := by
  simp [hcells, bc_len, h, ho]
theorem hcells_one (fp : By) (fl : Int) (os : List Int) : ∀ v ∈ hcells magic fp fl os, v.oneCell' = true := by
  intro v hv
  simp only [hcells, List.mem_cons, List.mem_append, List.mem_map] at hv
  rcases hv with (rfl | h) | rfl | ⟨y, _, rfl⟩
  · rfl
  · exact bc_one fp v h
  · rfl
  · rfl
theorem ownsRow_some {w : World} {B n : Nat} {v : Value} {xs : List Value} (h : w.ownsRow B 5 1 v n xs) (hn : 0 < n) : ∃ g c, v = .slice (some ⟨g, 0, none⟩) n c ∧ B ≤ g ∧ n ≤ c ∧ Cs w g 0 xs := by
  rcases h.2 with ⟨_, h0⟩ | ⟨g, cap, cur, rfl, hB, hc, hle, _, _, htk⟩
  · omega
  · refine ⟨g, cap, rfl, hB, hle, ?_⟩
    have := h.cells (g := g) rfl
    intro j u hj
    have h1 := this j u hj
    rwa [Lib.addr_add] at h1

/-- What the loop carries. -/
structure BfI (F : Fil) (cs : List Value) (w : World) (gf hb : Nat) (k : Nat) (t : Value) (x : World) : Prop where
  below : Below w.heap.size w x
  fil : Blk x gf 33 cs.toArray
  head : Blk x hb 64 (hcells magic F.fp F.flags (if k = 0 then zero19 else osF F)).toArray
  res : k = 2 → ∃ b c, t = .slice (some ⟨b, 0, none⟩) (encF F).length c ∧ (encF F).length ≤ c ∧ Cs x b 0 (Lib.byteCells (encF F)) ∧ w.heap.size ≤ b

set_option maxHeartbeats 3200000 in
set_option maxRecDepth 100000 in
theorem build_any (F : Fil) (v : Value) (w : World) (hF : FilR w v F) (hS : Small F) :
    Calls Tryz.prog 6 #[v] w fun e w' => ∃ b c, e = .returned (.slice (some ⟨b, 0, none⟩) (encF F).length c) ∧ (encF F).length ≤ c ∧ Cs w' b 0 (Lib.byteCells (encF F)) ∧ w.heap.size ≤ b ∧ Below w.heap.size w w' := by
  have hFv := Lib.hid hF
  obtain ⟨cs, v0, v1, v2, v3, v4, v5, v6, v7, v8, v9, v10, v11, rfl, hc, k⟩ := hF
  have hfl := k.flo
  have hok : ∀ y ∈ F.imports, y.ok := by
    obtain ⟨_, _, _, _, _, _, E⟩ := k.s0.elim
    intro y hy
    obtain ⟨j, hj⟩ := List.mem_iff_getElem?.1 hy
    obtain ⟨_, hR, _⟩ := E j y hj
    exact hR.1
  have hhl : ∀ y ∈ F.hashes, y.length = 16 := by
    obtain ⟨_, _, _, _, _, _, E⟩ := k.s10.elim
    intro y hy
    obtain ⟨j, hj⟩ := List.mem_iff_getElem?.1 hy
    obtain ⟨_, hR, _⟩ := E j y hj
    exact hR.1
  clear k
  have n1 := strB_len hS hc.fpl
  have n2 := bsF_len hS hok hhl
  have HM := Lib.hid (tabF_u32 hS hc.fpl)
  have HOK := Lib.hid (osF_ok F (by omega))
  have B0 := Blk.new w 33 cs.toArray
  have F0 := (Below.refl w.heap.size w).alloc (Nat.le_refl _) (.cells cs.toArray 33)
  have hsz : (w.alloc (.cells cs.toArray 33)).heap.size = w.heap.size + 1 := by simp
  have HC := Lib.hid hc; have HS := Lib.hid hS; have HN1 := Lib.hid n1; have HN2 := Lib.hid n2; have HFL := Lib.hid hfl
  clear hc hS n1 n2 hok hhl hfl
  go_enter Tryz.func6, Tryz.ntmps6
  go_wp2_with ((with_reducible refine selD 8 ?_); refine Hid.out ?_)
  refine Lib.hid ?_
  obtain ⟨gf, hgf⟩ : ∃ gf, gf = w.heap.size := ⟨_, rfl⟩
  rw [← hgf] at B0 hsz
  generalize w.alloc (.cells cs.toArray 33) = w1 at B0 F0 hsz ⊢
  rw [← hgf]
  have hgw : w.heap.size ≤ gf := by omega
  clear hgf
  have C1 : Hid (Cs w1 gf 0 (Lib.byteCells F.fp)) := Lib.hid (by
    have := B0.part (p := []) (s := Lib.byteCells F.fp) (q := cs.drop 8) (by rw [List.nil_append, ← HC.out.fp, List.take_append_drop])
    simpa using this)
  have c8 : w1.cell? ⟨gf, 8, none⟩ = some (.int .u32 F.flags) := by rw [B0.cell]; simpa using HC.out.fl
  have HB0 := Lib.hid B0; have HF0 := Lib.hid F0; have HSZ := Lib.hid hsz
  clear B0 F0 hsz
  go_wp2_with (first | ((with_reducible refine selD 8 ?_); go_must (refine wpList_load_cs _ rfl 22 _ rfl gf 0 (Lib.byteCells F.fp) rfl (Tryz.isAgg22 _) (by rw [bc_len, HC.out.fpl]; exact Tryz.sizeOf22 _) C1.out ?_)) | ((with_reducible refine selD 11 ?_); go_must (refine wpList_build3 _ rfl 64 _ _ _ rfl _ _ _ _ rfl rfl rfl (build64 F.fp F.flags HC.out.fpl _) ?_)) | ((with_reducible refine selS 64 ?_); go_must (refine wpList_store_all _ rfl 64 _ _ rfl _ 64 _ (hcells magic F.fp F.flags zero19) rfl rfl (by rw [hcells_len _ _ _ HC.out.fpl rfl]; exact Tryz.sizeOf64 _) (Blk.new _ 64 _) (by rw [hcells_len _ _ _ HC.out.fpl rfl]; rfl) (hcells_one _ _ _) ?_; intro w3 hb3 hf3; refine Hid.out ?_)))
  refine Lib.hid ?_
  obtain ⟨hb, hhb⟩ : ∃ hb, hb = w1.heap.size := ⟨_, rfl⟩
  rw [← hhb] at hb3 hf3
  rw [← hhb]
  have hgh : gf < hb := by have := HSZ.out; omega
  have F3 : Below w.heap.size w w3 := by
    have h1 := HF0.out.alloc HF0.out.size (.cells #[Value.string { data := #[] }, .int .u8 0, .int .u8 0, .int .u8 0, .int .u8 0, .int .u8 0, .int .u8 0, .int .u8 0, .int .u8 0, .int .u32 0, .int .u32 0, .int .u32 0, .int .u32 0, .int .u32 0, .int .u32 0, .int .u32 0, .int .u32 0, .int .u32 0, .int .u32 0, .int .u32 0, .int .u32 0, .int .u32 0, .int .u32 0, .int .u32 0, .int .u32 0, .int .u32 0, .int .u32 0, .int .u32 0, .int .u32 0] 64)
    exact ⟨hf3.os.trans h1.os, hf3.tape.trans h1.tape, hf3.output.trans h1.output, Nat.le_trans h1.size hf3.size, fun j hj => (hf3.block j (Nat.lt_of_lt_of_le hj h1.size) (by simp only [List.mem_singleton]; have := HSZ.out; omega)).trans (h1.block j hj)⟩
  have G3 := hf3.blk (by simp only [List.mem_singleton]; omega) (HB0.out.alloc (.cells _ 64))
  have P1 : BfI F cs w gf hb 0 (.slice (some ⟨w3.heap.size, 0, none⟩) 0 0) w3 := ⟨F3, G3, hb3, fun h => by omega⟩
  have H1 := Lib.hid P1
  have hhw : w.heap.size ≤ hb := by omega
  have hhl := Lib.hid hb3.lt
  clear F3 G3 hb3 hf3 HB0 HF0 HSZ hhb C1 c8 P1
  go_wp2_with fail
  go_loopw [13, 4] (fun c t x => ∃ k : Nat, k ≤ 2 ∧ c = .int .i64 k ∧ BfI F cs w gf hb k t x) (fun c _ _ => 2 - (intOf c).toNat)
  case atStart => exact ⟨0, by omega, rfl, ⟨(H1.out.below.alloc H1.out.below.size _), H1.out.fil.alloc _, H1.out.head.alloc _, fun h => by omega⟩⟩
  case round =>
    obtain ⟨k, hk, rfl, hw⟩ := hrel
    have P2 := Lib.hid hw
    clear hw H1
    by_cases hlt : k < 2
    · obtain ⟨os, hos⟩ : ∃ os, os = (if k = 0 then zero19 else osF F) := ⟨_, rfl⟩
      have hol : os.length = 19 := by rw [hos]; split; rfl; exact osF_len F
      have hoo : ∀ o ∈ os, u32ok o := by
        rw [hos]; split
        · intro o ho; simp only [zero19, List.mem_cons, List.not_mem_nil, or_false, or_self] at ho; subst ho; exact ⟨by decide, by decide⟩
        · exact HOK.out
      have h1 := P2.out.head
      rw [← hos] at h1
      have h2 := P2.out.fil
      have h3 := P2.out.below
      have HH := Lib.hid h1; have HG := Lib.hid h2; have HW := Lib.hid h3; have HO := Lib.hid hol; have HP := Lib.hid hoo
      have HOS := Lib.hid hos
      have hgl := h2.lt; have hhl := h1.lt; have hww := h3.size
      clear h1 h2 h3 hol hoo P2 hos
      go_wp2_with fail
      refine (newWriter_any _ wr.heap.size wr.heap.size (Lib.fresh_isBuffer 69 5 wr)).mono ?_
      rintro e w2 ⟨i, hiB, hib, rfl, h2, hf2⟩
      have hBel2 : Below wr.heap.size wr w2 := ((Below.refl wr.heap.size wr).alloc (Nat.le_refl _) _).trans (hf2.below.mono (by simp))
      have G2 := Lib.hid (HG.out.below hBel2 hgl); have K2 := Lib.hid (HH.out.below hBel2 hhl); have W2 := Lib.hid h2; have E2 := Lib.hid hBel2
      clear h2 hf2 hBel2
      go_wp2_with fail
      refine (headWrite_any i [] [] hb magic F.fp F.flags os w2 HC.out.fpl HO.out HP.out HFL.out (by decide) W2.out (by simp) K2.out).mono ?_
      rintro e w3 ⟨rfl, h3, hf3⟩
      have hB3 := hf3.below
      rw [hiB] at hB3
      have G3 := (HG.out.below (E2.out.trans hB3) hgl); have K3 := Lib.hid (HH.out.below (E2.out.trans hB3) hhl); have W3 := Lib.hid h3; have E3 := Lib.hid (E2.out.trans hB3)
      have GA := G3.all
      simp only [List.toList_toArray] at GA
      have G3' := Lib.hid G3
      clear h3 hf3 hB3 E2 W2 K2 G2 G3
      go_wp2_with ((with_reducible refine selD 21 ?_); go_must (refine wpList_load_cs _ rfl 33 _ rfl gf 0 cs rfl (Tryz.isAgg33 _) (by rw [HC.out.len]; exact Tryz.sizeOf33 _) GA ?_))
      clear GA
      have q1 : ((([] : By) ++ hbytes magic F.fp F.flags os)).length ≤ 1000 := by
        have := headB_len F os HC.out.fpl HO.out
        rw [List.nil_append]
        unfold headB at this
        omega
      have q := strings_any i _ [] F _ w w3 hFv.out HS.out (HW.out.trans (E3.out.mono hww)) (by rw [hiB]; exact hww) W3.out q1 (by simp)
      refine q.mono ?_
      clear q q1
      rintro e w4 ⟨rfl, h4, hf4⟩
      rw [List.nil_append] at h4
      have e4 := addAll_headB F os HO.out
      unfold headB at e4
      rw [e4] at h4
      clear e4
      have hB4 := hf4.below
      rw [hiB] at hB4
      have G4 := (HG.out.below (E3.out.trans hB4) hgl); have K4 := Lib.hid (HH.out.below (E3.out.trans hB4) hhl); have W4 := Lib.hid h4; have E4 := Lib.hid (E3.out.trans hB4)
      have GA := G4.all
      simp only [List.toList_toArray] at GA
      clear h4 hf4 hB4 E3 W3 K3 G3' G4
      go_wp2_with ((with_reducible refine selD 24 ?_); go_must (refine wpList_load_cs _ rfl 33 _ rfl gf 0 cs rfl (Tryz.isAgg33 _) (by rw [HC.out.len]; exact Tryz.sizeOf33 _) GA ?_))
      clear GA
      have hll : (hbytes magic F.fp F.flags os ++ strB F).length = 96 + (strB F).length := by
        have := headB_len F os HC.out.fpl HO.out
        unfold headB at this
        rw [List.length_append, this]
      have q := blocks_any i _ (tabF F) F _ w w4 hFv.out HS.out (HW.out.trans (E4.out.mono hww)) (by rw [hiB]; exact hww) HM.out W4.out (by rw [hll]; have h1 := HN1.out; have h2 := HN2.out; unfold bsF at h2; omega)
      rw [hll] at q
      refine q.mono ?_
      clear q hll
      rintro e w5 ⟨rfl, h5, hf5⟩
      have hB5 := hf5.below
      rw [hiB] at hB5
      have G5 := Lib.hid (HG.out.below (E4.out.trans hB5) hgl); have K5 := Lib.hid (HH.out.below (E4.out.trans hB5) hhl); have W5 := Lib.hid h5; have E5 := Lib.hid (E4.out.trans hB5)
      have HL62 : Hid (((osF F).map (fun (y : Int) => Value.int .u32 y)).length = 19) := Lib.hid (by rw [List.length_map, osF_len])
      have hp10 : (Value.string magic :: Lib.byteCells F.fp ++ [Value.int .u32 F.flags]).length = 10 := by simp [bc_len, HC.out.fpl]
      have HP10 := Lib.hid hp10
      clear h5 hf5 hB5 E4 W4 K4 hp10
      have K5' : Hid (Blk w5 hb 64 ((Value.string magic :: Lib.byteCells F.fp ++ [Value.int .u32 F.flags]) ++ os.map (Value.int .u32 ·) ++ []).toArray) := Lib.hid (by have := K5.out; simpa [hcells] using this)
      have HE1 : Hid (Value.agg ((offs (96 + (strB F).length) (blks F (tabF F)) 19).map (Value.int .u32 ·)).toArray = .agg ((osF F).map (Value.int .u32 ·)).toArray) := Lib.hid rfl
      rw [HE1.out]
      clear HE1
      go_wp2_with ((with_reducible refine selS 62 ?_); go_must (refine wpList_store_cs _ rfl 62 _ _ rfl hb 10 64 (Value.string magic :: Lib.byteCells F.fp ++ [Value.int .u32 F.flags]) (os.map (Value.int .u32 ·)) [] ((osF F).map (Value.int .u32 ·)) rfl rfl (by rw [HL62.out]; exact Tryz.sizeOf62 _) K5'.out HP10.out.symm (by rw [List.length_map, List.length_map, HO.out, osF_len]) (by intro v hv; obtain ⟨y, _, rfl⟩ := List.mem_map.1 hv; rfl) ?_; intro w6 hb6 hf6; refine Hid.out ?_))
      refine Lib.hid ?_
      have K6 : Hid (Blk w6 hb 64 (hcells magic F.fp F.flags (osF F)).toArray) := Lib.hid (by have := hb6; simpa [hcells] using this)
      have W6 := Lib.hid (W5.out.keep hf6 (by simp only [List.mem_singleton]; rintro y rfl; exact .inr ⟨64, _, K5.out, by decide, by decide, by decide⟩))
      have G6 := Lib.hid (hf6.blk (by simp only [List.mem_singleton]; omega) G5.out)
      have E6 : Hid (Below w.heap.size w w6) := Lib.hid (by
        have h1 := HW.out.trans (E5.out.mono hww)
        exact ⟨hf6.os.trans h1.os, hf6.tape.trans h1.tape, hf6.output.trans h1.output, Nat.le_trans h1.size hf6.size, fun j hj => (hf6.block j (Nat.lt_of_lt_of_le hj h1.size) (by simp only [List.mem_singleton]; omega)).trans (h1.block j hj)⟩)
      clear hb6 hf6 W5 K5 K5' G5 E5
      go_wp2_with fail
      have q := Tryz.Buffer_Bytes i.B i.bb _ w6 W6.out.2.1
      rw [hib] at q
      refine q.mono ?_
      clear q
      rintro e w7 ⟨v, rfl, hrow, n, rfl⟩
      have hlenE : (hbytes magic F.fp F.flags os ++ strB F ++ (blks F (tabF F)).flatten).length = (encF F).length := by
        have h1 := headB_len F os HC.out.fpl HO.out
        have h2 := headB_len F (osF F) HC.out.fpl (osF_len F)
        unfold headB at h1 h2
        simp only [encF, headB, bsF, List.length_append, h1, h2]
      rw [bc_len, hlenE] at hrow
      obtain ⟨g, c, rfl, hgB, hcap, hcs⟩ := ownsRow_some hrow (by
        have h2 := headB_len F (osF F) HC.out.fpl (osF_len F)
        simp only [encF, List.length_append]
        omega)
      have RS : Hid (k + 1 = 2 → ∃ b c', (Value.slice (some ⟨g, 0, none⟩) (encF F).length c) = .slice (some ⟨b, 0, none⟩) (encF F).length c' ∧ (encF F).length ≤ c' ∧ Cs (w6.drewN n) b 0 (Lib.byteCells (encF F)) ∧ w.heap.size ≤ b) := Lib.hid (by
        intro hk2
        refine ⟨g, c, rfl, hcap, ?_, by rw [hiB] at hgB; omega⟩
        have h1 := HOS.out
        rw [if_neg (by omega)] at h1
        rw [h1] at hcs
        exact hcs)
      clear hrow hcs hlenE
      have N6 := Lib.hid ((⟨⟨E6.out.os, E6.out.tape, E6.out.output, E6.out.size, E6.out.block⟩, G6.out, K6.out⟩ : Below w.heap.size w (w6.drewN n) ∧ Blk (w6.drewN n) gf 33 cs.toArray ∧ Blk (w6.drewN n) hb 64 (hcells magic F.fp F.flags (osF F)).toArray))
      clear E6 G6 K6 W6
      generalize w6.drewN n = w8 at RS N6 ⊢
      go_wp2
      go_roundw
      case rel => exact ⟨k + 1, by omega, by go_num, ⟨N6.out.1, N6.out.2.1, by rw [if_neg (by omega)]; exact N6.out.2.2, RS.out⟩⟩
      case measure => simp [intOf]; omega
    · have e : k = 2 := by omega
      subst e
      obtain ⟨b, c, rfl, hcap, hcs, hbw⟩ := P2.out.res rfl
      have R1 := Lib.hid hcs; have R2 := Lib.hid P2.out.below
      clear hcs P2
      go_wp2
      go_ret
      exact ⟨b, c, rfl, hcap, R1.out, hbw, R2.out⟩

end Go.Proofs.YtnhafphgkipldaaGreatDoor
