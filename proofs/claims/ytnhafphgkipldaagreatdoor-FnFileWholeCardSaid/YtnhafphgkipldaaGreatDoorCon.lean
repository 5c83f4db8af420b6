/- (impl.File).contents: relocations, auxiliaries and data are written, block by block. Conditions: the file is within the bounds of the statement. -/
import Derived.Test.YtnhafphgkipldaaGreatDoorBi2
namespace Go.Proofs.YtnhafphgkipldaaGreatDoor
open Go Go.RowKit

theorem BI.base {i : WId} {M : Tab} {ob : Nat} {w1 w2 x : World} {os : List Int} {l : By} (h : BI i M ob w2 os l x) (f : Fw i.B (ob :: i.S) w1 w2) (h1 : i.B ≤ w1.heap.size) (h2 : ob < w1.heap.size) : BI i M ob w1 os l x := ⟨h.1, f.trans h.2.1, h.2.2.1, h.2.2.2.1, h1, h2⟩
theorem BI.start {i : WId} {M : Tab} {ob : Nat} {w1 x : World} {os : List Int} {l : By} (h : BI i M ob w1 os l x) : BI i M ob x os l x := ⟨h.1, Fw.refl _ _ _, h.2.2.1, h.2.2.2.1, h.1.size, h.2.2.1.lt⟩
theorem Wr.outT {i : WId} {M : Tab} {w : World} {l : By} (h : Wr i w l M) : w.heap.size ∉ i.S := h.outS (Nat.le_refl _)
/-- The four lists, one after the other. -/
def LL (F : Fil) : List (List Def) := [F.own, F.short, F.hashed, F.other]
theorem LL_all (F : Fil) : (LL F).flatten = defs F := by simp [LL, defs]
theorem LL_le (F : Fil) (k : Nat) (ls : List Def) (h : (LL F)[k]? = some ls) : ((LL F).take k).flatten.length + ls.length ≤ (defs F).length := by
  rw [← LL_all]
  have : (LL F).flatten = ((LL F).take k).flatten ++ ((LL F).drop k).flatten := by rw [← List.flatten_append, List.take_append_drop]
  rw [this, List.length_append]
  have e : (LL F).drop k = ls :: (LL F).drop (k + 1) := by
    have hk := (List.getElem?_eq_some_iff.1 h)
    rw [List.drop_eq_getElem_cons hk.1, hk.2]
  rw [e]; simp only [List.flatten_cons, List.length_append]; omega
theorem LL_mem (F : Fil) (k : Nat) (ls : List Def) (h : (LL F)[k]? = some ls) (x : Def) (hx : x ∈ ls) : x ∈ defs F := by
  rw [← LL_all]; exact List.mem_flatten.2 ⟨ls, List.mem_of_getElem? h, hx⟩
theorem LL_flat (F : Fil) (hS : Small F) (c : Nat) (f : Def → By) (hc : ∀ d ∈ defs F, (f d).length ≤ c) (k : Nat) (ls : List Def) (h : (LL F)[k]? = some ls) (j : Nat) : ((((LL F).take k).flatten ++ ls.take j).flatMap f).length ≤ c * 60 := by
  refine Nat.le_trans (flat_le f c _ ?_) (Nat.mul_le_mul_left _ ?_)
  · intro x hx
    refine hc x ?_
    rcases List.mem_append.1 hx with h1 | h1
    · rw [← LL_all]
      obtain ⟨t, ht, hxt⟩ := List.mem_flatten.1 h1
      exact List.mem_flatten.2 ⟨t, List.mem_of_mem_take ht, hxt⟩
    · exact LL_mem F k ls h x (List.mem_of_mem_take h1)
  · have h1 := LL_le F k ls h
    have h2 : (defs F).length ≤ 60 := hS.nDefs
    simp only [List.length_append, List.length_take]
    omega
/-- What the walk knows of list k. -/
structure LK (F : Fil) (w0 : World) (AG : Value) (k : Nat) (ls : List Def) (b o : Nat) (A : Option Addr) (c : Nat) : Prop where
  get : (LL F)[k]? = some ls
  el : ∀ (i : Nat) (x : Def), ls[i]? = some x → ∃ cs, DefR w0 x cs ∧ cs.length = 10 ∧ Cs w0 b (o + i * 10) cs
  ad : ls ≠ [] → A = some ⟨b, o, none⟩
  ix : ∀ W, (Instr.index 84 AG (.int .i64 k)).run Tryz.prog W = .ok (.slice A ls.length c) W

set_option maxHeartbeats 3200000 in
set_option maxRecDepth 100000 in
theorem contents_any (i : WId) (l : By) (M : Tab) (F : Fil) (v : Value) (ob : Nat) (bs : List By) (w0 w1 w : World) (hF : FilR w0 v F) (hS : Small F) (h0 : Below w0.heap.size w0 w1) (hB : w0.heap.size ≤ i.B)
    (hb14 : bs[14]? = some ((defs F).flatMap fun d => d.rels.flatMap Rel.enc)) (hb15 : bs[15]? = some ((defs F).flatMap fun d => d.auxs.flatMap Aux.enc)) (hb16 : bs[16]? = some ((defs F).flatMap fun d => d.data.data.toList))
    (h : BI i M ob w1 (offs l.length bs 14) (l ++ (bs.take 14).flatten) w) (hn : l.length + bs.flatten.length ≤ 1000000) :
    Calls Tryz.prog 58 #[v, .pointer (some ⟨i.wb, 0, none⟩), .pointer (some ⟨ob, 0, none⟩)] w fun e w' => e = .returned (.tuple #[]) ∧ BI i M ob w1 (offs l.length bs 17) (l ++ (bs.take 17).flatten) w' := by
  obtain ⟨cs, v0, v1, v2, v3, v4, v5, v6, v7, v8, v9, v10, v11, rfl, hc, k⟩ := hF
  obtain ⟨b3, o3, c3, A3, rfl, hA3, E3⟩ := k.s3.elim
  obtain ⟨b4, o4, c4, A4, rfl, hA4, E4⟩ := k.s4.elim
  obtain ⟨b5, o5, c5, A5, rfl, hA5, E5⟩ := k.s5.elim
  obtain ⟨b6, o6, c6, A6, rfl, hA6, E6⟩ := k.s6.elim
  clear k
  have B0 := Blk.new w 33 cs.toArray
  have W0 := (h.alloc (.cells cs.toArray 33)).start
  have F1 := h.2.1.alloc h.1.size (.cells cs.toArray 33)
  have hg : w.heap.size ∉ ob :: i.S := by
    have h1 := h.1.outT
    have h2 := h.2.2.1.lt
    simp only [List.mem_cons, not_or]
    exact ⟨by omega, h1⟩
  have hK : ∀ k < 4, ∃ ls b o A c, LK F w0 (.agg #[.slice A3 F.own.length c3, .slice A4 F.short.length c4, .slice A5 F.hashed.length c5, .slice A6 F.other.length c6]) k ls b o A c := by
    intro k hk
    match k, hk with
    | 0, _ => exact ⟨F.own, b3, o3, A3, c3, rfl, E3, hA3, fun W => run_index_arr (n := 4) (by rfl) (fun w => Tryz.isAgg26 w) (fun w => Tryz.sizeOf26 w) _ 0 (by decide) _ rfl W⟩
    | 1, _ => exact ⟨F.short, b4, o4, A4, c4, rfl, E4, hA4, fun W => run_index_arr (n := 4) (by rfl) (fun w => Tryz.isAgg26 w) (fun w => Tryz.sizeOf26 w) _ 1 (by decide) _ rfl W⟩
    | 2, _ => exact ⟨F.hashed, b5, o5, A5, c5, rfl, E5, hA5, fun W => run_index_arr (n := 4) (by rfl) (fun w => Tryz.isAgg26 w) (fun w => Tryz.sizeOf26 w) _ 2 (by decide) _ rfl W⟩
    | 3, _ => exact ⟨F.other, b6, o6, A6, c6, rfl, E6, hA6, fun W => run_index_arr (n := 4) (by rfl) (fun w => Tryz.isAgg26 w) (fun w => Tryz.sizeOf26 w) _ 3 (by decide) _ rfl W⟩
  have HI := Lib.hid h0; have HS := Lib.hid hS; have HC := Lib.hid hc; have HK := Lib.hid hK; have HF := Lib.hid F1
  have Q14 := Lib.hid hb14; have Q15 := Lib.hid hb15; have Q16 := Lib.hid hb16; have HN := Lib.hid hn
  have R1 := h.2.2.2.2.1; have R2 := h.2.2.2.2.2
  clear h0 E3 E4 E5 E6 hS h hA3 hA4 hA5 hA6 hc hK F1 hb14 hb15 hb16 hn
  go_enter Tryz.func58, Tryz.ntmps58
  go_wp2_with fail
  generalize w.alloc (.cells cs.toArray 33) = wa at B0 W0 HF ⊢
  have HG : Hid (∀ x, Fw i.B (ob :: i.S) wa x → Blk x w.heap.size 33 cs.toArray) := Lib.hid (fun x hx => hx.blk hg (by decide) B0)
  have P1 := Lib.hid W0
  clear B0 W0
  obtain ⟨n14, hn14⟩ : ∃ n : Int, ((l ++ (bs.take 14).flatten).length : Int) = n := ⟨_, rfl⟩
  go_still_tail 5, (by kernel_rfl)
  still_call (offset_q P1.out.drew n14 hn14)
  repeat still_step
  refine wpStill_nil ?_
  change wpList _ _ _ _ _ wa.drew
  have W := P1.out.drew
  have cc := W.cell 14 0 (by rw [offs_get _ _ _ _ (by decide)]; rfl)
  have cf := W.frozen 14
  have HW := Lib.hid W
  clear W P1
  generalize wa.drew = w2 at cc cf HW ⊢
  go_wp2_with ((with_reducible refine selD 27 ?_); refine Hid.out ?_)
  refine Lib.hid ?_
  have P1 := Lib.hid (BI.stored HW.out hn14)
  clear HW cc cf
  generalize w2.setCell ⟨ob, 14, none⟩ (.int .u32 n14) = w3 at P1 ⊢
  have f1 := P1.out.2.1
  have G1 := (HG.out w3 f1).all
  simp only [List.toList_toArray] at G1
  go_wp2_with ((with_reducible refine selD 27 ?_); go_must (refine wpList_load_cs _ rfl 33 _ rfl w.heap.size 0 cs rfl (Tryz.isAgg33 _) (by rw [HC.out.len]; exact Tryz.sizeOf33 _) G1 ?_))
  clear G1
  refine (lists_any w3 cs A3 A4 A5 A6 F.own.length F.short.length F.hashed.length F.other.length c3 c4 c5 c6 HC.out.e3 HC.out.e4 HC.out.e5 HC.out.e6).mono ?_
  rintro e w4 ⟨rfl, hf⟩
  have P2 := Lib.hid (P1.out.fr0 hf)
  have f2 := P2.out.2.1
  clear P1 hf f1 hn14
  go_upto_block 0 with fail
  go_cut [] (fun x => BI i M ob wa (offs l.length bs 15) (l ++ (bs.take 15).flatten) x)
  case first =>
    go_wp2_with fail
    go_loopg [29] 4 (fun g c x => ∃ k : Nat, k ≤ 4 ∧ g = 4 - k ∧ c = .int .i64 k ∧ BI i M ob wa (offs l.length bs 15) (l ++ (bs.take 14).flatten ++ (((LL F).take k).flatten).flatMap (fun d => d.rels.flatMap Rel.enc)) x)
    case atStart => exact ⟨0, by omega, rfl, rfl, by simpa using P2.out⟩
    case round =>
      obtain ⟨k, hk, rfl, rfl, hw⟩ := hrel
      have P3 := Lib.hid hw
      clear hw P2
      by_cases hlt : k < 4
      · obtain ⟨ls, b, o, A, c, lk⟩ := HK.out k hlt
        have hix := lk.ix
        have n60 : ls.length ≤ 60 := by have h1 := LL_le F k ls lk.get; have h2 : (defs F).length ≤ 60 := HS.out.nDefs; omega
        have KL := Lib.hid lk
        clear lk
        go_wp2_with fail
        rw [show decide ((k : Int) < 4) = true from by simp; omega]
        clear hix
        go_loopw [34] (fun c x => ∃ j : Nat, j ≤ ls.length ∧ c = .int .i64 j ∧ BI i M ob wa (offs l.length bs 15) (l ++ (bs.take 14).flatten ++ (((LL F).take k).flatten ++ ls.take j).flatMap (fun d => d.rels.flatMap Rel.enc)) x) (fun c _ => ls.length - (intOf c).toNat)
        case atStart => exact ⟨0, Nat.zero_le _, rfl, by simpa using P3.out⟩
        case round =>
          obtain ⟨j, hkj, rfl, hw⟩ := hrel
          have P4 := Lib.hid hw
          clear hw
          by_cases hlj : j < ls.length
          · obtain ⟨x, hx⟩ : ∃ x, ls[j]? = some x := ⟨_, List.getElem?_eq_getElem hlj⟩
            obtain ⟨cs1, hR, hlen, hc⟩ := KL.out.el j x hx
            have hc' := Sl.at_ hc hlen (by decide) (Fw.old HI.out (HF.out.trans P4.out.2.1) hB)
            obtain rfl := KL.out.ad (by intro e; rw [e] at hlj; simp at hlj)
            have hsm := HS.out.defs x (LL_mem F k ls KL.out.get x (List.mem_of_getElem? hx))
            have hcap : ((((LL F).take k).flatten ++ ls.take j).flatMap (fun d => d.rels.flatMap Rel.enc)).length ≤ 460 * 60 := LL_flat F HS.out 460 _ (fun d hd => by have h1 := flat_le Rel.enc 23 d.rels (fun r _ => by rw [rel_len]; exact Nat.le_refl _); have h2 := (HS.out.defs d hd).2.2; omega) k ls KL.out.get j
            have hL : (l ++ (bs.take 14).flatten).length ≤ 1000000 := by have h1 := HN.out; have h2 := take_flatten_le bs 14; simp only [List.length_append]; omega
            have n20 := hsm.2.2
            obtain ⟨vr, va, p7, p8, p9, -, hr, ha⟩ := def_parts hR
            have one := def_one hR
            obtain ⟨br, oR, cr, Ar, rfl, hAr, Er⟩ := hr.elim
            have HE := Lib.hid Er; have HA := Lib.hid hAr
            clear Er hAr
            have HX1 := Lib.hid hx; have HV := Lib.hid hc'; have HL := Lib.hid hlen; have H1 := Lib.hid one; have HP7 := Lib.hid p7; have HP8 := Lib.hid p8; have HP9 := Lib.hid p9; have HSm := Lib.hid hsm; have HCap := Lib.hid hcap; have HLn := Lib.hid hL
            clear hx hc hc' hlen one hR p7 p8 p9 hr ha hsm hcap hL
            go_wp2_with (first | ((with_reducible refine selD 37 ?_); go_must (refine wpList_load_cs _ rfl 51 _ rfl b (o + j * 10) cs1 rfl (Tryz.isAgg51 _) (by rw [HL.out]; exact Tryz.sizeOf51 _) HV.out ?_)) | ((with_reducible refine selS 51 ?_); go_must (refine wpList_store_all _ rfl 51 _ _ rfl _ 51 _ cs1 rfl rfl (by rw [HL.out]; exact Tryz.sizeOf51 _) (Blk.new _ 51 _) (by rw [HL.out]; rfl) H1.out ?_; intro w5 hb5 hf5; refine Hid.out ?_)))
            refine Lib.hid ?_
            have c5 : w5.cell? ⟨wr.heap.size, 7, none⟩ = some (.slice Ar x.rels.length cr) := by rw [hb5.cell]; simpa using HP7.out
            have P5 := Lib.hid (P4.out.newSet hf5 (by decide) (by decide) (by decide))
            clear hb5 hf5
            go_wp2_with fail
            try rw [show decide ((j : Int) < (ls.length : Int)) = true from by simp; omega]
            clear c5
            go_loopw [41] (fun c y => ∃ q : Nat, q ≤ x.rels.length ∧ c = .int .i64 q ∧ BI i M ob wa (offs l.length bs 15) (l ++ (bs.take 14).flatten ++ (((LL F).take k).flatten ++ ls.take j).flatMap (fun d => d.rels.flatMap Rel.enc) ++ (x.rels.take q).flatMap Rel.enc) y) (fun c _ => x.rels.length - (intOf c).toNat)
            case atStart => exact ⟨0, Nat.zero_le _, rfl, by simpa using P5.out⟩
            case round =>
              obtain ⟨q, hkq, rfl, hw⟩ := hrel
              have P6 := Lib.hid hw
              clear hw
              by_cases hlq : q < x.rels.length
              · obtain ⟨r, hr⟩ : ∃ r, x.rels[q]? = some r := ⟨_, List.getElem?_eq_getElem hlq⟩
                obtain ⟨cs2, hR2, hlen2, hc2⟩ := HE.out q r hr
                have hc2' := Sl.at_ hc2 hlen2 (by decide) (Fw.old HI.out (HF.out.trans P6.out.2.1) hB)
                obtain rfl := HA.out (by intro e; rw [e] at hlq; simp at hlq)
                have one2 := rel_one hR2
                have HX2 := Lib.hid hr; have HV2 := Lib.hid hc2'; have HL2 := Lib.hid hlen2; have HO2 := Lib.hid one2; have HR2 := Lib.hid hR2
                clear hr hc2 hc2' hlen2 one2 hR2
                go_wp2_with (first | ((with_reducible refine selD 44 ?_); go_must (refine wpList_load_cs _ rfl 157 _ rfl br (oR + q * 6) cs2 rfl (Tryz.isAgg157 _) (by rw [HL2.out]; exact Tryz.sizeOf157 _) HV2.out ?_)) | ((with_reducible refine selS 157 ?_); go_must (refine wpList_store_all _ rfl 157 _ _ rfl _ 157 _ cs2 rfl rfl (by rw [HL2.out]; exact Tryz.sizeOf157 _) (Blk.new _ 157 _) (by rw [HL2.out]; rfl) HO2.out ?_; intro w7 hb7 hf7; refine Hid.out ?_)))
                refine Lib.hid ?_
                have P7 := Lib.hid (P6.out.newSet hf7 (by decide) (by decide) (by decide))
                have C7 := Lib.hid hb7.all
                clear hb7 hf7
                go_wp2_with ((with_reducible refine selD 45 ?_); go_must (refine wpList_load_cs _ rfl 157 _ rfl _ (0) cs2 rfl (Tryz.isAgg157 _) (by rw [HL2.out]; exact Tryz.sizeOf157 _) C7.out ?_))
                refine (reloc_BI P7.out r cs2 HR2.out).mono ?_
                rintro e w8 ⟨g, rfl, h8, hb8⟩
                have P8 := Lib.hid h8; have B8 := Lib.hid hb8
                clear h8 hb8
                go_wp2_with fail
                refine (relW_BI P8.out r g B8.out (by
                  have h1 := HLn.out; have h2 := HCap.out; have h3 := flat_le Rel.enc 23 (x.rels.take q) (fun r _ => by rw [rel_len]; exact Nat.le_refl _); have h4 := HSm.out.2.2
                  rw [List.length_take] at h3
                  rw [List.length_append, List.length_append]
                  omega)).mono ?_
                rintro e w9 ⟨rfl, h9⟩
                have P9 := Lib.hid h9
                clear h9
                go_wp2
                go_roundw
                case rel => exact ⟨q + 1, by omega, by go_num, by
                  have h9 := P9.out
                  rw [flatMap_succ _ _ _ _ HX2.out, ← List.append_assoc]
                  simpa using h9⟩
                case measure => simp [intOf]; omega
              · have e : q = x.rels.length := by omega
                subst e
                go_wp2
                go_roundw
                case rel => exact ⟨j + 1, by omega, by go_num, by
                  have h9 := P6.out
                  rw [mid_succ _ _ _ _ _ HX1.out]
                  simpa using h9⟩
                case measure => simp [intOf]; omega
          · have e : j = ls.length := by omega
            subst e
            go_wp2
            go_roundg (4 - (k + 1))
            case rel => exact ⟨k + 1, by omega, rfl, by go_num, by
              have h9 := P4.out
              rw [show (LL F).take (k + 1) = (LL F).take k ++ [ls] from by rw [List.take_add_one, KL.out.get]; rfl]
              simpa using h9⟩
            case measure => omega
      · have e : k = 4 := by omega
        subst e
        go_wp2
        have hX := P3.out
        have eX : ((LL F).take 4).flatten = defs F := by rw [← LL_all]; rfl
        rw [eX, List.append_assoc, ← flat_succ bs 14 _ Q14.out] at hX
        go_meet
        case rel => exact hX
  case rest =>
  clear P2 f2
  have P1 := Lib.hid hcut
  clear hcut
  go_wp2_with fail
  obtain ⟨n15, hn15⟩ : ∃ n : Int, ((l ++ (bs.take 15).flatten).length : Int) = n := ⟨_, rfl⟩
  go_still_tail 5, (by kernel_rfl)
  still_call (offset_q P1.out.drew n15 hn15)
  repeat still_step
  refine wpStill_nil ?_
  change wpList _ _ _ _ _ wc.drew
  have W := P1.out.drew
  have cc := W.cell 15 0 (by rw [offs_get _ _ _ _ (by decide)]; rfl)
  have cf := W.frozen 15
  have HW := Lib.hid W
  clear W P1
  generalize wc.drew = w2 at cc cf HW ⊢
  go_wp2_with ((with_reducible refine selD 57 ?_); refine Hid.out ?_)
  refine Lib.hid ?_
  have P1 := Lib.hid (BI.stored HW.out hn15)
  clear HW cc cf
  generalize w2.setCell ⟨ob, 15, none⟩ (.int .u32 n15) = w3 at P1 ⊢
  have f1 := P1.out.2.1
  have G1 := (HG.out w3 f1).all
  simp only [List.toList_toArray] at G1
  go_wp2_with ((with_reducible refine selD 57 ?_); go_must (refine wpList_load_cs _ rfl 33 _ rfl w.heap.size 0 cs rfl (Tryz.isAgg33 _) (by rw [HC.out.len]; exact Tryz.sizeOf33 _) G1 ?_))
  clear G1
  refine (lists_any w3 cs A3 A4 A5 A6 F.own.length F.short.length F.hashed.length F.other.length c3 c4 c5 c6 HC.out.e3 HC.out.e4 HC.out.e5 HC.out.e6).mono ?_
  rintro e w4 ⟨rfl, hf⟩
  have P2 := Lib.hid (P1.out.fr0 hf)
  have f2 := P2.out.2.1
  clear P1 hf f1 hn15
  go_upto_block 6 with fail
  go_cut [] (fun x => BI i M ob wa (offs l.length bs 16) (l ++ (bs.take 16).flatten) x)
  case first =>
    go_wp2_with fail
    go_loopg [59] 4 (fun g c x => ∃ k : Nat, k ≤ 4 ∧ g = 4 - k ∧ c = .int .i64 k ∧ BI i M ob wa (offs l.length bs 16) (l ++ (bs.take 15).flatten ++ (((LL F).take k).flatten).flatMap (fun d => d.auxs.flatMap Aux.enc)) x)
    case atStart => exact ⟨0, by omega, rfl, rfl, by simpa using P2.out⟩
    case round =>
      obtain ⟨k, hk, rfl, rfl, hw⟩ := hrel
      have P3 := Lib.hid hw
      clear hw P2
      by_cases hlt : k < 4
      · obtain ⟨ls, b, o, A, c, lk⟩ := HK.out k hlt
        have hix := lk.ix
        have n60 : ls.length ≤ 60 := by have h1 := LL_le F k ls lk.get; have h2 : (defs F).length ≤ 60 := HS.out.nDefs; omega
        have KL := Lib.hid lk
        clear lk
        go_wp2_with fail
        rw [show decide ((k : Int) < 4) = true from by simp; omega]
        clear hix
        go_loopw [64] (fun c x => ∃ j : Nat, j ≤ ls.length ∧ c = .int .i64 j ∧ BI i M ob wa (offs l.length bs 16) (l ++ (bs.take 15).flatten ++ (((LL F).take k).flatten ++ ls.take j).flatMap (fun d => d.auxs.flatMap Aux.enc)) x) (fun c _ => ls.length - (intOf c).toNat)
        case atStart => exact ⟨0, Nat.zero_le _, rfl, by simpa using P3.out⟩
        case round =>
          obtain ⟨j, hkj, rfl, hw⟩ := hrel
          have P4 := Lib.hid hw
          clear hw
          by_cases hlj : j < ls.length
          · obtain ⟨x, hx⟩ : ∃ x, ls[j]? = some x := ⟨_, List.getElem?_eq_getElem hlj⟩
            obtain ⟨cs1, hR, hlen, hc⟩ := KL.out.el j x hx
            have hc' := Sl.at_ hc hlen (by decide) (Fw.old HI.out (HF.out.trans P4.out.2.1) hB)
            obtain rfl := KL.out.ad (by intro e; rw [e] at hlj; simp at hlj)
            have hsm := HS.out.defs x (LL_mem F k ls KL.out.get x (List.mem_of_getElem? hx))
            have hcap : ((((LL F).take k).flatten ++ ls.take j).flatMap (fun d => d.auxs.flatMap Aux.enc)).length ≤ 180 * 60 := LL_flat F HS.out 180 _ (fun d hd => by have h1 := flat_le Aux.enc 9 d.auxs (fun r _ => by rw [aux_len]; exact Nat.le_refl _); have h2 := (HS.out.defs d hd).2.2; omega) k ls KL.out.get j
            have hL : (l ++ (bs.take 15).flatten).length ≤ 1000000 := by have h1 := HN.out; have h2 := take_flatten_le bs 15; simp only [List.length_append]; omega
            have n20 := hsm.2.2
            obtain ⟨vr, va, p7, p8, p9, -, hr, ha⟩ := def_parts hR
            have one := def_one hR
            obtain ⟨br, oR, cr, Ar, rfl, hAr, Er⟩ := ha.elim
            have HE := Lib.hid Er; have HA := Lib.hid hAr
            clear Er hAr
            have HX1 := Lib.hid hx; have HV := Lib.hid hc'; have HL := Lib.hid hlen; have H1 := Lib.hid one; have HP7 := Lib.hid p7; have HP8 := Lib.hid p8; have HP9 := Lib.hid p9; have HSm := Lib.hid hsm; have HCap := Lib.hid hcap; have HLn := Lib.hid hL
            clear hx hc hc' hlen one hR p7 p8 p9 hr ha hsm hcap hL
            go_wp2_with (first | ((with_reducible refine selD 67 ?_); go_must (refine wpList_load_cs _ rfl 51 _ rfl b (o + j * 10) cs1 rfl (Tryz.isAgg51 _) (by rw [HL.out]; exact Tryz.sizeOf51 _) HV.out ?_)) | ((with_reducible refine selS 51 ?_); go_must (refine wpList_store_all _ rfl 51 _ _ rfl _ 51 _ cs1 rfl rfl (by rw [HL.out]; exact Tryz.sizeOf51 _) (Blk.new _ 51 _) (by rw [HL.out]; rfl) H1.out ?_; intro w5 hb5 hf5; refine Hid.out ?_)))
            refine Lib.hid ?_
            have c5 : w5.cell? ⟨wr.heap.size, 8, none⟩ = some (.slice Ar x.auxs.length cr) := by rw [hb5.cell]; simpa using HP8.out
            have P5 := Lib.hid (P4.out.newSet hf5 (by decide) (by decide) (by decide))
            clear hb5 hf5
            go_wp2_with fail
            try rw [show decide ((j : Int) < (ls.length : Int)) = true from by simp; omega]
            clear c5
            go_loopw [71] (fun c y => ∃ q : Nat, q ≤ x.auxs.length ∧ c = .int .i64 q ∧ BI i M ob wa (offs l.length bs 16) (l ++ (bs.take 15).flatten ++ (((LL F).take k).flatten ++ ls.take j).flatMap (fun d => d.auxs.flatMap Aux.enc) ++ (x.auxs.take q).flatMap Aux.enc) y) (fun c _ => x.auxs.length - (intOf c).toNat)
            case atStart => exact ⟨0, Nat.zero_le _, rfl, by simpa using P5.out⟩
            case round =>
              obtain ⟨q, hkq, rfl, hw⟩ := hrel
              have P6 := Lib.hid hw
              clear hw
              by_cases hlq : q < x.auxs.length
              · obtain ⟨r, hr⟩ : ∃ r, x.auxs[q]? = some r := ⟨_, List.getElem?_eq_getElem hlq⟩
                obtain ⟨cs2, hR2, hlen2, hc2⟩ := HE.out q r hr
                have hc2' := Sl.at_ hc2 hlen2 (by decide) (Fw.old HI.out (HF.out.trans P6.out.2.1) hB)
                obtain rfl := HA.out (by intro e; rw [e] at hlq; simp at hlq)
                have one2 := aux_one hR2
                have HX2 := Lib.hid hr; have HV2 := Lib.hid hc2'; have HL2 := Lib.hid hlen2; have HO2 := Lib.hid one2; have HR2 := Lib.hid hR2
                clear hr hc2 hc2' hlen2 one2 hR2
                go_wp2_with (first | ((with_reducible refine selD 74 ?_); go_must (refine wpList_load_cs _ rfl 165 _ rfl br (oR + q * 3) cs2 rfl (Tryz.isAgg165 _) (by rw [HL2.out]; exact Tryz.sizeOf165 _) HV2.out ?_)) | ((with_reducible refine selS 165 ?_); go_must (refine wpList_store_all _ rfl 165 _ _ rfl _ 165 _ cs2 rfl rfl (by rw [HL2.out]; exact Tryz.sizeOf165 _) (Blk.new _ 165 _) (by rw [HL2.out]; rfl) HO2.out ?_; intro w7 hb7 hf7; refine Hid.out ?_)))
                refine Lib.hid ?_
                have P7 := Lib.hid (P6.out.newSet hf7 (by decide) (by decide) (by decide))
                have C7 := Lib.hid hb7.all
                clear hb7 hf7
                go_wp2_with ((with_reducible refine selD 75 ?_); go_must (refine wpList_load_cs _ rfl 165 _ rfl _ (0) cs2 rfl (Tryz.isAgg165 _) (by rw [HL2.out]; exact Tryz.sizeOf165 _) C7.out ?_))
                refine (aux_BI P7.out r cs2 HR2.out).mono ?_
                rintro e w8 ⟨g, rfl, h8, hb8⟩
                have P8 := Lib.hid h8; have B8 := Lib.hid hb8
                clear h8 hb8
                go_wp2_with fail
                refine (auxW_BI P8.out r g B8.out (by
                  have h1 := HLn.out; have h2 := HCap.out; have h3 := flat_le Aux.enc 9 (x.auxs.take q) (fun r _ => by rw [aux_len]; exact Nat.le_refl _); have h4 := HSm.out.2.2
                  rw [List.length_take] at h3
                  rw [List.length_append, List.length_append]
                  omega)).mono ?_
                rintro e w9 ⟨rfl, h9⟩
                have P9 := Lib.hid h9
                clear h9
                go_wp2
                go_roundw
                case rel => exact ⟨q + 1, by omega, by go_num, by
                  have h9 := P9.out
                  rw [flatMap_succ _ _ _ _ HX2.out, ← List.append_assoc]
                  simpa using h9⟩
                case measure => simp [intOf]; omega
              · have e : q = x.auxs.length := by omega
                subst e
                go_wp2
                go_roundw
                case rel => exact ⟨j + 1, by omega, by go_num, by
                  have h9 := P6.out
                  rw [mid_succ _ _ _ _ _ HX1.out]
                  simpa using h9⟩
                case measure => simp [intOf]; omega
          · have e : j = ls.length := by omega
            subst e
            go_wp2
            go_roundg (4 - (k + 1))
            case rel => exact ⟨k + 1, by omega, rfl, by go_num, by
              have h9 := P4.out
              rw [show (LL F).take (k + 1) = (LL F).take k ++ [ls] from by rw [List.take_add_one, KL.out.get]; rfl]
              simpa using h9⟩
            case measure => omega
      · have e : k = 4 := by omega
        subst e
        go_wp2
        have hX := P3.out
        have eX : ((LL F).take 4).flatten = defs F := by rw [← LL_all]; rfl
        rw [eX, List.append_assoc, ← flat_succ bs 15 _ Q15.out] at hX
        go_meet
        case rel => exact hX
  case rest =>
  clear P2 f2
  have P1 := Lib.hid hcut
  clear hcut
  go_wp2_with fail
  obtain ⟨n16, hn16⟩ : ∃ n : Int, ((l ++ (bs.take 16).flatten).length : Int) = n := ⟨_, rfl⟩
  go_still_tail 5, (by kernel_rfl)
  still_call (offset_q P1.out.drew n16 hn16)
  repeat still_step
  refine wpStill_nil ?_
  change wpList _ _ _ _ _ wc.drew
  have W := P1.out.drew
  have cc := W.cell 16 0 (by rw [offs_get _ _ _ _ (by decide)]; rfl)
  have cf := W.frozen 16
  have HW := Lib.hid W
  clear W P1
  generalize wc.drew = w2 at cc cf HW ⊢
  go_wp2_with ((with_reducible refine selD 87 ?_); refine Hid.out ?_)
  refine Lib.hid ?_
  have P1 := Lib.hid (BI.stored HW.out hn16)
  clear HW cc cf
  generalize w2.setCell ⟨ob, 16, none⟩ (.int .u32 n16) = w3 at P1 ⊢
  have f1 := P1.out.2.1
  have G1 := (HG.out w3 f1).all
  simp only [List.toList_toArray] at G1
  go_wp2_with ((with_reducible refine selD 87 ?_); go_must (refine wpList_load_cs _ rfl 33 _ rfl w.heap.size 0 cs rfl (Tryz.isAgg33 _) (by rw [HC.out.len]; exact Tryz.sizeOf33 _) G1 ?_))
  clear G1
  refine (lists_any w3 cs A3 A4 A5 A6 F.own.length F.short.length F.hashed.length F.other.length c3 c4 c5 c6 HC.out.e3 HC.out.e4 HC.out.e5 HC.out.e6).mono ?_
  rintro e w4 ⟨rfl, hf⟩
  have P2 := Lib.hid (P1.out.fr0 hf)
  have f2 := P2.out.2.1
  clear P1 hf f1 hn16
  · go_wp2_with fail
    go_loopg [89] 4 (fun g c x => ∃ k : Nat, k ≤ 4 ∧ g = 4 - k ∧ c = .int .i64 k ∧ BI i M ob wa (offs l.length bs 17) (l ++ (bs.take 16).flatten ++ (((LL F).take k).flatten).flatMap (fun d => d.data.data.toList)) x)
    case atStart => exact ⟨0, by omega, rfl, rfl, by simpa using P2.out⟩
    case round =>
      obtain ⟨k, hk, rfl, rfl, hw⟩ := hrel
      have P3 := Lib.hid hw
      clear hw P2
      by_cases hlt : k < 4
      · obtain ⟨ls, b, o, A, c, lk⟩ := HK.out k hlt
        have hix := lk.ix
        have n60 : ls.length ≤ 60 := by have h1 := LL_le F k ls lk.get; have h2 : (defs F).length ≤ 60 := HS.out.nDefs; omega
        have KL := Lib.hid lk
        clear lk
        go_wp2_with fail
        rw [show decide ((k : Int) < 4) = true from by simp; omega]
        clear hix
        go_loopw [94] (fun c x => ∃ j : Nat, j ≤ ls.length ∧ c = .int .i64 j ∧ BI i M ob wa (offs l.length bs 17) (l ++ (bs.take 16).flatten ++ (((LL F).take k).flatten ++ ls.take j).flatMap (fun d => d.data.data.toList)) x) (fun c _ => ls.length - (intOf c).toNat)
        case atStart => exact ⟨0, Nat.zero_le _, rfl, by simpa using P3.out⟩
        case round =>
          obtain ⟨j, hkj, rfl, hw⟩ := hrel
          have P4 := Lib.hid hw
          clear hw
          by_cases hlj : j < ls.length
          · obtain ⟨x, hx⟩ : ∃ x, ls[j]? = some x := ⟨_, List.getElem?_eq_getElem hlj⟩
            obtain ⟨cs1, hR, hlen, hc⟩ := KL.out.el j x hx
            have hc' := Sl.at_ hc hlen (by decide) (Fw.old HI.out (HF.out.trans P4.out.2.1) hB)
            obtain rfl := KL.out.ad (by intro e; rw [e] at hlj; simp at hlj)
            have hsm := HS.out.defs x (LL_mem F k ls KL.out.get x (List.mem_of_getElem? hx))
            have hcap : ((((LL F).take k).flatten ++ ls.take j).flatMap (fun d => d.data.data.toList)).length ≤ 200 * 60 := LL_flat F HS.out 200 _ (fun d hd => by have h2 := (HS.out.defs d hd).2.1; rw [str_len]; omega) k ls KL.out.get j
            have hL : (l ++ (bs.take 16).flatten).length ≤ 1000000 := by have h1 := HN.out; have h2 := take_flatten_le bs 16; simp only [List.length_append]; omega
            have n20 := hsm.2.2
            obtain ⟨vr, va, p7, p8, p9, -, hr, ha⟩ := def_parts hR
            have one := def_one hR
            have HX1 := Lib.hid hx; have HV := Lib.hid hc'; have HL := Lib.hid hlen; have H1 := Lib.hid one; have HP7 := Lib.hid p7; have HP8 := Lib.hid p8; have HP9 := Lib.hid p9; have HSm := Lib.hid hsm; have HCap := Lib.hid hcap; have HLn := Lib.hid hL
            clear hx hc hc' hlen one hR p7 p8 p9 hr ha hsm hcap hL
            go_wp2_with (first | ((with_reducible refine selD 97 ?_); go_must (refine wpList_load_cs _ rfl 51 _ rfl b (o + j * 10) cs1 rfl (Tryz.isAgg51 _) (by rw [HL.out]; exact Tryz.sizeOf51 _) HV.out ?_)) | ((with_reducible refine selS 51 ?_); go_must (refine wpList_store_all _ rfl 51 _ _ rfl _ 51 _ cs1 rfl rfl (by rw [HL.out]; exact Tryz.sizeOf51 _) (Blk.new _ 51 _) (by rw [HL.out]; rfl) H1.out ?_; intro w5 hb5 hf5; refine Hid.out ?_)))
            refine Lib.hid ?_
            have c5 : w5.cell? ⟨wr.heap.size, 9, none⟩ = some (.string x.data) := by rw [hb5.cell]; simpa using HP9.out
            have P5 := Lib.hid (P4.out.newSet hf5 (by decide) (by decide) (by decide))
            clear hb5 hf5
            have hcv := Lib.run_convert_string_bytes (P := Tryz.prog) w5 9 35 5 x.data (by rfl) (by rfl) (by rfl)
            have P7 := Lib.hid (conv_BI P5.out x.data)
            have hbb := bb_lt P5.out
            go_wp2_with fail
            refine (dataW_BI x.data w5 _ P7.out (by have h1 := HSm.out.2.1; omega) (by
              have h1 := HLn.out; have h2 := HCap.out
              rw [List.length_append]
              omega) hbb).mono ?_
            rintro e w9 ⟨rfl, h9⟩
            have P9 := Lib.hid h9
            clear h9 hcv hbb c5
            go_wp2
            go_roundw
            case rel => exact ⟨j + 1, by omega, by go_num, by
              have h9 := P9.out
              rw [mid_succ _ _ _ _ _ HX1.out]
              simpa using h9⟩
            case measure => simp [intOf]; omega
          · have e : j = ls.length := by omega
            subst e
            go_wp2
            go_roundg (4 - (k + 1))
            case rel => exact ⟨k + 1, by omega, rfl, by go_num, by
              have h9 := P4.out
              rw [show (LL F).take (k + 1) = (LL F).take k ++ [ls] from by rw [List.take_add_one, KL.out.get]; rfl]
              simpa using h9⟩
            case measure => omega
      · have e : k = 4 := by omega
        subst e
        go_wp2
        have hX := P3.out
        have eX : ((LL F).take 4).flatten = defs F := by rw [← LL_all]; rfl
        rw [eX, List.append_assoc, ← flat_succ bs 16 _ Q16.out] at hX
        go_end0
        exact ⟨rfl, hX.base HF.out R1 R2⟩
end Go.Proofs.YtnhafphgkipldaaGreatDoor
