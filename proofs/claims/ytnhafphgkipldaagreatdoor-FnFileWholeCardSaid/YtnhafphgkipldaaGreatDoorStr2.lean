/- (impl.File).strings: all strings of a file are added to the writer, in their order. Conditions: the file is within the bounds of the statement. -/
import Derived.Test.YtnhafphgkipldaaGreatDoorStr
import Derived.Deep.DeepMust
namespace Go.Proofs.YtnhafphgkipldaaGreatDoor
open Go Go.RowKit

def defs (F : Fil) : List Def := F.own ++ F.short ++ F.hashed ++ F.other
/-- All strings of a file, in the order in which they are added. -/
def strs (F : Fil) : List ByteArray := ByteArray.empty :: F.imports.map (·.pkg) ++ F.packages ++ F.files ++ (defs F).map (·.name) ++ F.refs.map (·.name) ++ F.refNames.map (·.name)

theorem def_name {w : World} {x : Def} {cs : List Value} (h : DefR w x cs) : cs[0]? = some (.string x.name) := by
  obtain ⟨_, vr, va, rfl, _, _⟩ := h; rfl

set_option maxHeartbeats 3200000 in
set_option maxRecDepth 100000 in
theorem strings_any (i : WId) (l : By) (M : Tab) (F : Fil) (v : Value) (w0 w : World) (hF : FilR w0 v F) (hS : Small F) (h0 : Below w0.heap.size w0 w) (hB : w0.heap.size ≤ i.B) (h : Wr i w l M) (hl : l.length ≤ 1000) (hM : M.length ≤ 1000) :
    Calls Tryz.prog 17 #[v, .pointer (some ⟨i.wb, 0, none⟩)] w (WPost i w (addAll (l, M) (strs F)).1 (addAll (l, M) (strs F)).2) := by
  obtain ⟨cs, v0, v1, v2, v3, v4, v5, v6, v7, v8, v9, v10, v11, rfl, hc, k⟩ := hF
  obtain ⟨b0, o0, c0, A0, rfl, hA0, E0⟩ := k.s0.elim
  obtain ⟨b1, o1, c1, A1, rfl, hA1, E1⟩ := k.s1.elim
  obtain ⟨b2, o2, c2, A2, rfl, hA2, E2⟩ := k.s2.elim
  obtain ⟨b3, o3, c3, A3, rfl, hA3, E3⟩ := k.s3.elim
  obtain ⟨b4, o4, c4, A4, rfl, hA4, E4⟩ := k.s4.elim
  obtain ⟨b5, o5, c5, A5, rfl, hA5, E5⟩ := k.s5.elim
  obtain ⟨b6, o6, c6, A6, rfl, hA6, E6⟩ := k.s6.elim
  obtain ⟨b7, o7, c7, A7, rfl, hA7, E7⟩ := k.s7.elim
  obtain ⟨b11, o11, c11, A11, rfl, hA11, E11⟩ := k.s11.elim
  clear k
  obtain ⟨fp, fl, imp, pks, fls, own, sho, has, oth, rfs, flg, h64, h128, nms⟩ := F
  simp only at *
  have L0 := hS.nImps; have L1 := hS.nPkgs; have L2 := hS.nFiles; have L7 := hS.nRefs; have L11 := hS.nNames; have LD := hS.nDefs
  simp only [List.length_append] at L0 L1 L2 L7 L11 LD
  have hX : (addAll (l, M) (strs ⟨fp, fl, imp, pks, fls, own, sho, has, oth, rfs, flg, h64, h128, nms⟩)) = (addAll (l, M) (ByteArray.empty :: imp.map (·.pkg) ++ pks ++ fls ++ (own ++ sho ++ has ++ oth).map (·.name) ++ rfs.map (·.name) ++ nms.map (·.name))) := rfl
  rw [hX]
  clear hX
  generalize hX : (addAll (l, M) (ByteArray.empty :: imp.map (·.pkg) ++ pks ++ fls ++ (own ++ sho ++ has ++ oth).map (·.name) ++ rfs.map (·.name) ++ nms.map (·.name))) = X
  have HX := Lib.hid hX
  have B0 := Blk.new w 33 cs.toArray
  have F0 := (Fw.refl i.B i.S w).alloc h.size (.cells cs.toArray 33)
  have W0 := h.alloc (.cells cs.toArray 33)
  have hg : w.heap.size ∉ i.S := by
    have h1 := h.ne
    obtain ⟨⟨sc, _, hw⟩, hB, hm, _⟩ := h
    have := hw.lt; have := hB.lt
    obtain ⟨es, cl, he⟩ := hm.obj
    have := Lib.lt_of_heap he
    simp only [WId.S, List.mem_cons, List.not_mem_nil, or_false, not_or]
    omega
  have HI := Lib.hid h0; have HE0 := Lib.hid E0; have HS := Lib.hid hS; have HA0 := Lib.hid hA0; have HC := Lib.hid hc
  have HE1 := Lib.hid E1; have HE2 := Lib.hid E2; have HE3 := Lib.hid E3; have HE4 := Lib.hid E4; have HE5 := Lib.hid E5; have HE6 := Lib.hid E6; have HE7 := Lib.hid E7; have HE11 := Lib.hid E11
  have HA1 := Lib.hid hA1; have HA2 := Lib.hid hA2; have HA3 := Lib.hid hA3; have HA4 := Lib.hid hA4; have HA5 := Lib.hid hA5; have HA6 := Lib.hid hA6; have HA7 := Lib.hid hA7; have HA11 := Lib.hid hA11
  clear hX h0 E0 E1 E2 E3 E4 E5 E6 E7 E11 hS h hA0 hA1 hA2 hA3 hA4 hA5 hA6 hA7 hA11 hc
  go_enter Tryz.func17, Tryz.ntmps17
  go_wp2_with fail
  generalize w.alloc (.cells cs.toArray 33) = w1 at B0 F0 W0 ⊢
  have G0 : ∀ x, Fw i.B i.S w1 x → Blk x w.heap.size 33 cs.toArray := fun x hx => hx.blk hg (by decide) B0
  have C9 : ∀ x, Fw i.B i.S w1 x → x.cell? ⟨w.heap.size, 9, none⟩ = some (.slice A0 imp.length c0) := fun x hx => by rw [(G0 x hx).cell]; simpa using HC.out.e0
  have C10 : ∀ x, Fw i.B i.S w1 x → x.cell? ⟨w.heap.size, 10, none⟩ = some (.slice A1 pks.length c1) := fun x hx => by rw [(G0 x hx).cell]; simpa using HC.out.e1
  have C11 : ∀ x, Fw i.B i.S w1 x → x.cell? ⟨w.heap.size, 11, none⟩ = some (.slice A2 fls.length c2) := fun x hx => by rw [(G0 x hx).cell]; simpa using HC.out.e2
  have C16 : ∀ x, Fw i.B i.S w1 x → x.cell? ⟨w.heap.size, 16, none⟩ = some (.slice A7 rfs.length c7) := fun x hx => by rw [(G0 x hx).cell]; simpa using HC.out.e7
  have C20 : ∀ x, Fw i.B i.S w1 x → x.cell? ⟨w.heap.size, 20, none⟩ = some (.slice A11 nms.length c11) := fun x hx => by rw [(G0 x hx).cell]; simpa using HC.out.e11
  have HG := Lib.hid G0
  have P0 := Lib.hid F0
  have W1 : SI i l M w1 [] w1 := ⟨W0, Fw.refl _ _ _, by simp, W0.size, hl, hM⟩
  clear F0 B0 W0 G0
  refine (addString_SI i l M w1 w1 [] ByteArray.empty W1 (by decide) (by simp)).mono ?_
  rintro e w2 ⟨rfl, h1⟩
  have f1 := h1.2.1
  have P1 := Lib.hid h1
  clear h1 W1
  go_upto_block 0 with fail
  go_cut [] (fun x => SI i l M w1 ([ByteArray.empty] ++ imp.map (·.pkg)) x)
  case first =>
    go_wp2_with fail
    go_loopw [23] (fun c x => ∃ k : Nat, k ≤ imp.length ∧ c = .int .i64 k ∧ SI i l M w1 ([ByteArray.empty] ++ (imp.take k).map (·.pkg)) x) (fun c _ => imp.length - (intOf c).toNat)
    case atStart => exact ⟨0, Nat.zero_le _, rfl, by simpa using P1.out⟩
    case round =>
      obtain ⟨k, hkk, rfl, hw⟩ := hrel
      have hf := hw.2.1
      have HW := Lib.hid hw
      clear hw
      by_cases hlk : k < imp.length
      · obtain ⟨x, hx⟩ : ∃ x, imp[k]? = some x := ⟨_, List.getElem?_eq_getElem hlk⟩
        obtain ⟨cs1, hR, hlen, hc⟩ := HE0.out k x hx
        have hc' := Sl.at_ hc hlen (by decide) (Fw.old HI.out (P0.out.trans hf) hB)
        obtain rfl := HA0.out (by intro e; rw [e] at hlk; simp at hlk)
        have hmem : x ∈ imp := List.mem_of_getElem? hx
        have HX1 := Lib.hid hx
        clear hx
        have c0 := (show cs1[0]? = some (.string x.pkg) by rw [hR.2]; rfl)
        have one := imp_one hR
        have HV := Lib.hid hc'; have HL := Lib.hid hlen; have H1 := Lib.hid one; have HC0 := Lib.hid c0
        clear hc hc' hlen one hR c0
        go_wp2_with (first | ((with_reducible refine selD 26 ?_); go_must (refine wpList_load_cs _ rfl 59 _ rfl b0 (o0 + k * 9) cs1 rfl (Tryz.isAgg59 _) (by rw [HL.out]; exact Tryz.sizeOf59 _) HV.out ?_)) | ((with_reducible refine selS 59 ?_); go_must (refine wpList_store_all _ rfl 59 _ _ rfl _ 59 _ cs1 rfl rfl (by rw [HL.out]; exact Tryz.sizeOf59 _) (Blk.new _ 59 _) (by rw [HL.out]; rfl) H1.out ?_; intro w3 hb3 hf3; refine Hid.out ?_)))
        refine Lib.hid ?_
        have c3 : w3.cell? ⟨wr.heap.size, 0, none⟩ = some (.string x.pkg) := by rw [hb3.cell]; simpa using HC0.out
        have HW3 := Lib.hid (HW.out.newSet hf3 (by decide) (by decide) (by decide))
        clear hb3 hf3
        go_wp2_with fail
        have q1 := (HS.out.imps x hmem)
        have q2 : ([ByteArray.empty] ++ (imp.take k).map (·.pkg)).length ≤ 1000 := by simp only [List.length_append, List.length_cons, List.length_nil, List.length_map, List.length_take]; omega
        have q3 := addString_SI i l M w1 w3 _ x.pkg HW3.out q1 q2
        refine q3.mono ?_
        clear q1 q2 q3
        clear c3
        rintro e w4 ⟨rfl, h4⟩
        have H4 := Lib.hid h4
        clear h4
        go_wp2
        go_roundw
        case rel => exact ⟨k + 1, by omega, by go_num, by have := H4.out; rw [take_succ_map _ _ _ _ HX1.out, ← List.append_assoc]; simpa using this⟩
        case measure => simp [intOf]; omega
      · have e : k = imp.length := by omega
        subst e
        go_wp2
        go_meet
        case rel => have := HW.out; simpa using this
  case rest =>
  clear P1
  have f1 := hcut.2.1
  have P1 := Lib.hid hcut
  clear hcut
  go_upto_block 2 with fail
  go_cut [] (fun x => SI i l M w1 ([ByteArray.empty] ++ imp.map (·.pkg) ++ pks) x)
  case first =>
    go_wp2_with fail
    go_loopw [35] (fun c x => ∃ k : Nat, k ≤ pks.length ∧ c = .int .i64 k ∧ SI i l M w1 ([ByteArray.empty] ++ imp.map (·.pkg) ++ pks.take k) x) (fun c _ => pks.length - (intOf c).toNat)
    case atStart => exact ⟨0, Nat.zero_le _, rfl, by simpa using P1.out⟩
    case round =>
      obtain ⟨k, hkk, rfl, hw⟩ := hrel
      have hf := hw.2.1
      have HW := Lib.hid hw
      clear hw
      by_cases hlk : k < pks.length
      · obtain ⟨x, hx⟩ : ∃ x, pks[k]? = some x := ⟨_, List.getElem?_eq_getElem hlk⟩
        obtain ⟨cs1, hR, hlen, hc⟩ := HE1.out k x hx
        have hc' := Sl.at_ hc hlen (by decide) (Fw.old HI.out (P0.out.trans hf) hB)
        obtain rfl := HA1.out (by intro e; rw [e] at hlk; simp at hlk)
        have hmem : x ∈ pks := List.mem_of_getElem? hx
        have HX1 := Lib.hid hx
        clear hx
        have c0 : wr.cell? ⟨b1, o1 + k, none⟩ = some (.string x) := by
          have := hc' 0 (.string x) (by rw [hR]; rfl)
          simpa using this
        clear hc hc' hlen hR
        go_wp2_with fail
        have q1 := (HS.out.pkgs x hmem)
        have q2 : ([ByteArray.empty] ++ imp.map (·.pkg) ++ pks.take k).length ≤ 1000 := by simp only [List.length_append, List.length_cons, List.length_nil, List.length_map, List.length_take]; omega
        have q3 := addString_SI i l M w1 wr _ x HW.out q1 q2
        refine q3.mono ?_
        clear q1 q2 q3
        clear c0
        rintro e w4 ⟨rfl, h4⟩
        have H4 := Lib.hid h4
        clear h4
        go_wp2
        go_roundw
        case rel => exact ⟨k + 1, by omega, by go_num, by have := H4.out; rw [List.take_add_one, HX1.out]; simp only [Option.toList]; rw [← List.append_assoc]; simpa using this⟩
        case measure => simp [intOf]; omega
      · have e : k = pks.length := by omega
        subst e
        go_wp2
        go_meet
        case rel => have := HW.out; simpa using this
  case rest =>
  clear P1
  have f1 := hcut.2.1
  have P1 := Lib.hid hcut
  clear hcut
  go_upto_block 4 with fail
  go_cut [] (fun x => SI i l M w1 ([ByteArray.empty] ++ imp.map (·.pkg) ++ pks ++ fls) x)
  case first =>
    go_wp2_with fail
    go_loopw [46] (fun c x => ∃ k : Nat, k ≤ fls.length ∧ c = .int .i64 k ∧ SI i l M w1 ([ByteArray.empty] ++ imp.map (·.pkg) ++ pks ++ fls.take k) x) (fun c _ => fls.length - (intOf c).toNat)
    case atStart => exact ⟨0, Nat.zero_le _, rfl, by simpa using P1.out⟩
    case round =>
      obtain ⟨k, hkk, rfl, hw⟩ := hrel
      have hf := hw.2.1
      have HW := Lib.hid hw
      clear hw
      by_cases hlk : k < fls.length
      · obtain ⟨x, hx⟩ : ∃ x, fls[k]? = some x := ⟨_, List.getElem?_eq_getElem hlk⟩
        obtain ⟨cs1, hR, hlen, hc⟩ := HE2.out k x hx
        have hc' := Sl.at_ hc hlen (by decide) (Fw.old HI.out (P0.out.trans hf) hB)
        obtain rfl := HA2.out (by intro e; rw [e] at hlk; simp at hlk)
        have hmem : x ∈ fls := List.mem_of_getElem? hx
        have HX1 := Lib.hid hx
        clear hx
        have c0 : wr.cell? ⟨b2, o2 + k, none⟩ = some (.string x) := by
          have := hc' 0 (.string x) (by rw [hR]; rfl)
          simpa using this
        clear hc hc' hlen hR
        go_wp2_with fail
        have q1 := (HS.out.files x hmem)
        have q2 : ([ByteArray.empty] ++ imp.map (·.pkg) ++ pks ++ fls.take k).length ≤ 1000 := by simp only [List.length_append, List.length_cons, List.length_nil, List.length_map, List.length_take]; omega
        have q3 := addString_SI i l M w1 wr _ x HW.out q1 q2
        refine q3.mono ?_
        clear q1 q2 q3
        clear c0
        rintro e w4 ⟨rfl, h4⟩
        have H4 := Lib.hid h4
        clear h4
        go_wp2
        go_roundw
        case rel => exact ⟨k + 1, by omega, by go_num, by have := H4.out; rw [List.take_add_one, HX1.out]; simp only [Option.toList]; rw [← List.append_assoc]; simpa using this⟩
        case measure => simp [intOf]; omega
      · have e : k = fls.length := by omega
        subst e
        go_wp2
        go_meet
        case rel => have := HW.out; simpa using this
  case rest =>
  clear P1
  have f1 := hcut.2.1
  have P1 := Lib.hid hcut
  clear hcut
  have G1 := (HG.out wc f1).all
  simp only [List.toList_toArray] at G1
  go_wp2_with ((with_reducible refine selD 54 ?_); go_must (refine wpList_load_cs _ rfl 33 _ rfl w.heap.size 0 cs rfl (Tryz.isAgg33 _) (by rw [HC.out.len]; exact Tryz.sizeOf33 _) G1 ?_))
  clear G1
  refine (lists_any wc cs A3 A4 A5 A6 own.length sho.length has.length oth.length c3 c4 c5 c6 HC.out.e3 HC.out.e4 HC.out.e5 HC.out.e6).mono ?_
  rintro e w3 ⟨rfl, hf3⟩
  have P2 := Lib.hid (P1.out.fr0 hf3)
  have f2 := P2.out.2.1
  clear P1 hf3 f1
  go_upto_block 6 with fail
  go_cut [] (fun x => SI i l M w1 ([ByteArray.empty] ++ imp.map (·.pkg) ++ pks ++ fls ++ (own ++ sho ++ has ++ oth).map (·.name)) x)
  case first =>
    go_wp2_with fail
    go_loopg [56] 4 (fun g c x => ∃ k : Nat, k ≤ 4 ∧ g = 4 - k ∧ c = .int .i64 k ∧ SI i l M w1 ([ByteArray.empty] ++ imp.map (·.pkg) ++ pks ++ fls ++ (([own, sho, has, oth].take k).flatten).map (·.name)) x)
    case atStart => exact ⟨0, by omega, rfl, rfl, by simpa using P2.out⟩
    case round =>
      obtain ⟨k, hk, rfl, rfl, hw⟩ := hrel
      have f1 := hw.2.1
      have P1 := Lib.hid hw
      clear hw
      by_cases hlt : k < 4
      · obtain ⟨ls, b, o, A, c, hls, hsm, hcap, hE, hA, hix⟩ : ∃ (ls : List Def) (b o : Nat) (A : Option Addr) (c : Nat), Hid ([own, sho, has, oth][k]? = some ls) ∧ (∀ x ∈ ls, x.name.size ≤ 100) ∧ ([own, sho, has, oth].take k).flatten.length + ls.length ≤ own.length + sho.length + has.length + oth.length ∧ Hid (∀ (i : Nat) (x : Def), ls[i]? = some x → ∃ cs, DefR w0 x cs ∧ cs.length = 10 ∧ Cs w0 b (o + i * 10) cs) ∧ Hid (ls ≠ [] → A = some ⟨b, o, none⟩) ∧ ∀ W, (Instr.index 84 (.agg #[.slice A3 own.length c3, .slice A4 sho.length c4, .slice A5 has.length c5, .slice A6 oth.length c6]) (.int .i64 k)).run Tryz.prog W = .ok (.slice A ls.length c) W := by
          have hN := fun x hx => (HS.out.defs x hx).1
          simp only [List.mem_append] at hN
          match k, hlt with
          | 0, _ => exact ⟨own, b3, o3, A3, c3, Lib.hid rfl, fun x hx => hN x (Or.inl (Or.inl (Or.inl hx))), by simp <;> omega, HE3, HA3, fun W => run_index_arr (n := 4) (by rfl) (fun w => Tryz.isAgg26 w) (fun w => Tryz.sizeOf26 w) _ 0 (by decide) _ rfl W⟩
          | 1, _ => exact ⟨sho, b4, o4, A4, c4, Lib.hid rfl, fun x hx => hN x (Or.inl (Or.inl (Or.inr hx))), by simp <;> omega, HE4, HA4, fun W => run_index_arr (n := 4) (by rfl) (fun w => Tryz.isAgg26 w) (fun w => Tryz.sizeOf26 w) _ 1 (by decide) _ rfl W⟩
          | 2, _ => exact ⟨has, b5, o5, A5, c5, Lib.hid rfl, fun x hx => hN x (Or.inl (Or.inr hx)), by simp <;> omega, HE5, HA5, fun W => run_index_arr (n := 4) (by rfl) (fun w => Tryz.isAgg26 w) (fun w => Tryz.sizeOf26 w) _ 2 (by decide) _ rfl W⟩
          | 3, _ => exact ⟨oth, b6, o6, A6, c6, Lib.hid rfl, fun x hx => hN x (Or.inr hx), by simp <;> omega, HE6, HA6, fun W => run_index_arr (n := 4) (by rfl) (fun w => Tryz.isAgg26 w) (fun w => Tryz.sizeOf26 w) _ 3 (by decide) _ rfl W⟩
        go_wp2_with fail
        rw [show decide ((k : Int) < 4) = true from by simp; omega]
        go_loopw [61] (fun c x => ∃ j : Nat, j ≤ ls.length ∧ c = .int .i64 j ∧ SI i l M w1 ([ByteArray.empty] ++ imp.map (·.pkg) ++ pks ++ fls ++ (([own, sho, has, oth].take k).flatten).map (·.name) ++ (ls.take j).map (·.name)) x) (fun c _ => ls.length - (intOf c).toNat)
        case atStart => exact ⟨0, Nat.zero_le _, rfl, by simpa using P1.out⟩
        case round =>
          obtain ⟨j, hkj, rfl, hw⟩ := hrel
          have hf := hw.2.1
          have HW := Lib.hid hw
          clear hw
          by_cases hlj : j < ls.length
          · obtain ⟨x, hx⟩ : ∃ x, ls[j]? = some x := ⟨_, List.getElem?_eq_getElem hlj⟩
            obtain ⟨cs1, hR, hlen, hc⟩ := hE.out j x hx
            have hc' := Sl.at_ hc hlen (by decide) (Fw.old HI.out (P0.out.trans hf) hB)
            obtain rfl := hA.out (by intro e; rw [e] at hlj; simp at hlj)
            have hmem : x ∈ ls := List.mem_of_getElem? hx
            have HX1 := Lib.hid hx
            clear hx
            have c0 := (show cs1[0]? = some (.string x.name) from def_name hR)
            have one := def_one hR
            have HV := Lib.hid hc'; have HL := Lib.hid hlen; have H1 := Lib.hid one; have HC0 := Lib.hid c0
            clear hc hc' hlen one hR c0
            go_wp2_with (first | ((with_reducible refine selD 64 ?_); go_must (refine wpList_load_cs _ rfl 51 _ rfl b (o + j * 10) cs1 rfl (Tryz.isAgg51 _) (by rw [HL.out]; exact Tryz.sizeOf51 _) HV.out ?_)) | ((with_reducible refine selS 51 ?_); go_must (refine wpList_store_all _ rfl 51 _ _ rfl _ 51 _ cs1 rfl rfl (by rw [HL.out]; exact Tryz.sizeOf51 _) (Blk.new _ 51 _) (by rw [HL.out]; rfl) H1.out ?_; intro w3 hb3 hf3; refine Hid.out ?_)))
            refine Lib.hid ?_
            have c3 : w3.cell? ⟨wr.heap.size, 0, none⟩ = some (.string x.name) := by rw [hb3.cell]; simpa using HC0.out
            have HW3 := Lib.hid (HW.out.newSet hf3 (by decide) (by decide) (by decide))
            clear hb3 hf3
            go_wp2_with fail
            have q1 := (hsm x hmem)
            have q2 : ([ByteArray.empty] ++ imp.map (·.pkg) ++ pks ++ fls ++ (([own, sho, has, oth].take k).flatten).map (·.name) ++ (ls.take j).map (·.name)).length ≤ 1000 := by simp only [List.length_append, List.length_cons, List.length_nil, List.length_map, List.length_take]; have := hcap; omega
            have q3 := addString_SI i l M w1 w3 _ x.name HW3.out q1 q2
            refine q3.mono ?_
            clear q1 q2 q3
            clear c3
            rintro e w4 ⟨rfl, h4⟩
            have H4 := Lib.hid h4
            clear h4
            go_wp2
            go_roundw
            case rel => exact ⟨j + 1, by omega, by go_num, by have := H4.out; rw [take_succ_map _ _ _ _ HX1.out, ← List.append_assoc]; simpa using this⟩
            case measure => simp [intOf]; omega
          · have e : j = ls.length := by omega
            subst e
            go_wp2
            have f9 := HW.out.2.1
            go_roundg (4 - (k + 1))
            case rel => exact ⟨k + 1, by omega, rfl, by go_num, by
              have := HW.out
              rw [List.take_add_one, hls.out]
              simpa using this⟩
            case measure => omega
      · have e : k = 4 := by omega
        subst e
        go_wp2
        go_meet
        case rel => have := P1.out; simpa using this
  case rest =>
  clear P2 f2
  have f1 := hcut.2.1
  have P1 := Lib.hid hcut
  clear hcut
  go_upto_block 10 with fail
  go_cut [] (fun x => SI i l M w1 ([ByteArray.empty] ++ imp.map (·.pkg) ++ pks ++ fls ++ (own ++ sho ++ has ++ oth).map (·.name) ++ rfs.map (·.name)) x)
  case first =>
    go_wp2_with fail
    go_loopw [74] (fun c x => ∃ k : Nat, k ≤ rfs.length ∧ c = .int .i64 k ∧ SI i l M w1 ([ByteArray.empty] ++ imp.map (·.pkg) ++ pks ++ fls ++ (own ++ sho ++ has ++ oth).map (·.name) ++ (rfs.take k).map (·.name)) x) (fun c _ => rfs.length - (intOf c).toNat)
    case atStart => exact ⟨0, Nat.zero_le _, rfl, by simpa using P1.out⟩
    case round =>
      obtain ⟨k, hkk, rfl, hw⟩ := hrel
      have hf := hw.2.1
      have HW := Lib.hid hw
      clear hw
      by_cases hlk : k < rfs.length
      · obtain ⟨x, hx⟩ : ∃ x, rfs[k]? = some x := ⟨_, List.getElem?_eq_getElem hlk⟩
        obtain ⟨cs1, hR, hlen, hc⟩ := HE7.out k x hx
        have hc' := Sl.at_ hc hlen (by decide) (Fw.old HI.out (P0.out.trans hf) hB)
        obtain rfl := HA7.out (by intro e; rw [e] at hlk; simp at hlk)
        have hmem : x ∈ rfs := List.mem_of_getElem? hx
        have HX1 := Lib.hid hx
        clear hx
        have c0 := (show cs1[0]? = some (.string x.name) by rw [hR.2]; rfl)
        have one := rfd_one hR
        have HV := Lib.hid hc'; have HL := Lib.hid hlen; have H1 := Lib.hid one; have HC0 := Lib.hid c0
        clear hc hc' hlen one hR c0
        go_wp2_with (first | ((with_reducible refine selD 77 ?_); go_must (refine wpList_load_cs _ rfl 53 _ rfl b7 (o7 + k * 7) cs1 rfl (Tryz.isAgg53 _) (by rw [HL.out]; exact Tryz.sizeOf53 _) HV.out ?_)) | ((with_reducible refine selS 53 ?_); go_must (refine wpList_store_all _ rfl 53 _ _ rfl _ 53 _ cs1 rfl rfl (by rw [HL.out]; exact Tryz.sizeOf53 _) (Blk.new _ 53 _) (by rw [HL.out]; rfl) H1.out ?_; intro w3 hb3 hf3; refine Hid.out ?_)))
        refine Lib.hid ?_
        have c3 : w3.cell? ⟨wr.heap.size, 0, none⟩ = some (.string x.name) := by rw [hb3.cell]; simpa using HC0.out
        have HW3 := Lib.hid (HW.out.newSet hf3 (by decide) (by decide) (by decide))
        clear hb3 hf3
        go_wp2_with fail
        have q1 := (HS.out.refs x hmem)
        have q2 : ([ByteArray.empty] ++ imp.map (·.pkg) ++ pks ++ fls ++ (own ++ sho ++ has ++ oth).map (·.name) ++ (rfs.take k).map (·.name)).length ≤ 1000 := by simp only [List.length_append, List.length_cons, List.length_nil, List.length_map, List.length_take]; omega
        have q3 := addString_SI i l M w1 w3 _ x.name HW3.out q1 q2
        refine q3.mono ?_
        clear q1 q2 q3
        clear c3
        rintro e w4 ⟨rfl, h4⟩
        have H4 := Lib.hid h4
        clear h4
        go_wp2
        go_roundw
        case rel => exact ⟨k + 1, by omega, by go_num, by have := H4.out; rw [take_succ_map _ _ _ _ HX1.out, ← List.append_assoc]; simpa using this⟩
        case measure => simp [intOf]; omega
      · have e : k = rfs.length := by omega
        subst e
        go_wp2
        go_meet
        case rel => have := HW.out; simpa using this
  case rest =>
  clear P1
  have f1 := hcut.2.1
  have P1 := Lib.hid hcut
  clear hcut
  go_wp2_with fail
  go_loopw [86] (fun c x => ∃ k : Nat, k ≤ nms.length ∧ c = .int .i64 k ∧ SI i l M w1 ([ByteArray.empty] ++ imp.map (·.pkg) ++ pks ++ fls ++ (own ++ sho ++ has ++ oth).map (·.name) ++ rfs.map (·.name) ++ (nms.take k).map (·.name)) x) (fun c _ => nms.length - (intOf c).toNat)
  case atStart => exact ⟨0, Nat.zero_le _, rfl, by simpa using P1.out⟩
  case round =>
    obtain ⟨k, hkk, rfl, hw⟩ := hrel
    have hf := hw.2.1
    have HW := Lib.hid hw
    clear hw
    by_cases hlk : k < nms.length
    · obtain ⟨x, hx⟩ : ∃ x, nms[k]? = some x := ⟨_, List.getElem?_eq_getElem hlk⟩
      obtain ⟨cs1, hR, hlen, hc⟩ := HE11.out k x hx
      have hc' := Sl.at_ hc hlen (by decide) (Fw.old HI.out (P0.out.trans hf) hB)
      obtain rfl := HA11.out (by intro e; rw [e] at hlk; simp at hlk)
      have hmem : x ∈ nms := List.mem_of_getElem? hx
      have HX1 := Lib.hid hx
      clear hx
      have c0 := (show cs1[2]? = some (.string x.name) by rw [hR.2]; rfl)
      have one := nam_one hR
      have HV := Lib.hid hc'; have HL := Lib.hid hlen; have H1 := Lib.hid one; have HC0 := Lib.hid c0
      clear hc hc' hlen one hR c0
      go_wp2_with (first | ((with_reducible refine selD 89 ?_); go_must (refine wpList_load_cs _ rfl 57 _ rfl b11 (o11 + k * 3) cs1 rfl (Tryz.isAgg57 _) (by rw [HL.out]; exact Tryz.sizeOf57 _) HV.out ?_)) | ((with_reducible refine selS 57 ?_); go_must (refine wpList_store_all _ rfl 57 _ _ rfl _ 57 _ cs1 rfl rfl (by rw [HL.out]; exact Tryz.sizeOf57 _) (Blk.new _ 57 _) (by rw [HL.out]; rfl) H1.out ?_; intro w3 hb3 hf3; refine Hid.out ?_)))
      refine Lib.hid ?_
      have c3 : w3.cell? ⟨wr.heap.size, 2, none⟩ = some (.string x.name) := by rw [hb3.cell]; simpa using HC0.out
      have HW3 := Lib.hid (HW.out.newSet hf3 (by decide) (by decide) (by decide))
      clear hb3 hf3
      go_wp2_with fail
      have q1 := (HS.out.names x hmem)
      have q2 : ([ByteArray.empty] ++ imp.map (·.pkg) ++ pks ++ fls ++ (own ++ sho ++ has ++ oth).map (·.name) ++ rfs.map (·.name) ++ (nms.take k).map (·.name)).length ≤ 1000 := by simp only [List.length_append, List.length_cons, List.length_nil, List.length_map, List.length_take]; omega
      have q3 := addString_SI i l M w1 w3 _ x.name HW3.out q1 q2
      refine q3.mono ?_
      clear q1 q2 q3
      clear c3
      rintro e w4 ⟨rfl, h4⟩
      have H4 := Lib.hid h4
      clear h4
      go_wp2
      go_roundw
      case rel => exact ⟨k + 1, by omega, by go_num, by have := H4.out; rw [take_succ_map _ _ _ _ HX1.out, ← List.append_assoc]; simpa using this⟩
      case measure => simp [intOf]; omega
    · have e : k = nms.length := by omega
      subst e
      go_wp2
      go_end0
      have h := HW.out
      refine ⟨rfl, ?_, P0.out.trans h.2.1⟩
      rw [← HX.out]
      have h1 := h.1
      simpa using h1

end Go.Proofs.YtnhafphgkipldaaGreatDoor
