/- (impl.File).indices: three blocks of running counts are written. Conditions: the file is within the bounds of the statement. -/
import Derived.Test.YtnhafphgkipldaaGreatDoorCon
namespace Go.Proofs.YtnhafphgkipldaaGreatDoor
open Go Go.RowKit

theorem idxSt_bound (c : Def → Nat) (K : Nat) (ds : List Def) (h : ∀ d ∈ ds, c d ≤ K) : (idxSt c ds).2 ≤ K * ds.length ∧ (idxSt c ds).1.length = 4 + 4 * ds.length := by
  have key : ∀ (ds : List Def) (st : By × Nat), (∀ d ∈ ds, c d ≤ K) → (ds.foldl (fun (st : By × Nat) d => (st.1 ++ le4 ((st.2 + c d : Nat) : Int), st.2 + c d)) st).2 ≤ st.2 + K * ds.length ∧ (ds.foldl (fun (st : By × Nat) d => (st.1 ++ le4 ((st.2 + c d : Nat) : Int), st.2 + c d)) st).1.length = st.1.length + 4 * ds.length := by
    intro ds
    induction ds with
    | nil => intro st _; exact ⟨by simp, by simp⟩
    | cons d t ih =>
      intro st h
      have h1 := ih (st.1 ++ le4 ((st.2 + c d : Nat) : Int), st.2 + c d) (fun x hx => h x (by simp [hx]))
      have h2 := h d (by simp)
      simp only [List.foldl_cons, List.length_cons, Nat.mul_add, Nat.mul_one]
      simp only [List.length_append, le4_len] at h1
      exact ⟨by omega, by omega⟩
  have := key ds (le4 0, 0) h
  simp only [le4_len] at this
  exact ⟨by unfold idxSt; omega, by unfold idxSt; omega⟩
theorem cnt_le {F : Fil} (hS : Small F) (k : Nat) (d : Def) (hd : d ∈ defs F) : cnt k d ≤ 200 := by
  have h := hS.defs d hd
  unfold cnt
  split
  · omega
  · split <;> omega
theorem LL_idx (F : Fil) (hS : Small F) (kk k : Nat) (ls : List Def) (h : (LL F)[k]? = some ls) (j : Nat) : (idxSt (cnt kk) (((LL F).take k).flatten ++ ls.take j)).2 ≤ 200 * 60 ∧ (idxSt (cnt kk) (((LL F).take k).flatten ++ ls.take j)).1.length ≤ 4 + 4 * 60 := by
  have hb := idxSt_bound (cnt kk) 200 (((LL F).take k).flatten ++ ls.take j) (by
    intro x hx
    refine cnt_le hS kk x ?_
    rcases List.mem_append.1 hx with h1 | h1
    · rw [← LL_all]
      obtain ⟨t, ht, hxt⟩ := List.mem_flatten.1 h1
      exact List.mem_flatten.2 ⟨t, List.mem_of_mem_take ht, hxt⟩
    · exact LL_mem F k ls h x (List.mem_of_mem_take h1))
  have hl : (((LL F).take k).flatten ++ ls.take j).length ≤ 60 := by
    have h1 := LL_le F k ls h
    have h2 : (defs F).length ≤ 60 := hS.nDefs
    simp only [List.length_append, List.length_take]
    omega
  omega

set_option maxHeartbeats 3200000 in
set_option maxRecDepth 100000 in
theorem indices_any (i : WId) (l : By) (M : Tab) (F : Fil) (v : Value) (ob : Nat) (bs : List By) (w0 w1 w : World) (hF : FilR w0 v F) (hS : Small F) (h0 : Below w0.heap.size w0 w1) (hB : w0.heap.size ≤ i.B)
    (hb : ∀ k < 3, bs[11 + k]? = some (idxSt (cnt k) (defs F)).1)
    (h : BI i M ob w1 (offs l.length bs 11) (l ++ (bs.take 11).flatten) w) (hn : l.length + bs.flatten.length ≤ 1000000) :
    Calls Tryz.prog 57 #[v, .pointer (some ⟨i.wb, 0, none⟩), .pointer (some ⟨ob, 0, none⟩)] w fun e w' => e = .returned (.tuple #[]) ∧ BI i M ob w1 (offs l.length bs 14) (l ++ (bs.take 14).flatten) w' := by
  obtain ⟨cs, v0, v1, v2, v3, v4, v5, v6, v7, v8, v9, v10, v11, rfl, hc, k⟩ := hF
  obtain ⟨b3, o3, c3, A3, rfl, hA3, E3⟩ := k.s3.elim
  obtain ⟨b4, o4, c4, A4, rfl, hA4, E4⟩ := k.s4.elim
  obtain ⟨b5, o5, c5, A5, rfl, hA5, E5⟩ := k.s5.elim
  obtain ⟨b6, o6, c6, A6, rfl, hA6, E6⟩ := k.s6.elim
  clear k
  have B0 := Blk.new w 33 cs.toArray
  have W0 := (h.alloc (.cells cs.toArray 33)).start
  have F1 := h.2.1.alloc h.1.size (.cells cs.toArray 33)
  have hg : w.heap.size ∉ ob :: i.S := by
    have h1 := h.1.outT
    have h2 := h.2.2.1.lt
    simp only [List.mem_cons, not_or]
    exact ⟨by omega, h1⟩
  have hK : ∀ k < 4, ∃ ls b o A c, LK F w0 (.agg #[.slice A3 F.own.length c3, .slice A4 F.short.length c4, .slice A5 F.hashed.length c5, .slice A6 F.other.length c6]) k ls b o A c := by
    intro k hk
    match k, hk with
    | 0, _ => exact ⟨F.own, b3, o3, A3, c3, rfl, E3, hA3, fun W => run_index_arr (n := 4) (by rfl) (fun w => Tryz.isAgg26 w) (fun w => Tryz.sizeOf26 w) _ 0 (by decide) _ rfl W⟩
    | 1, _ => exact ⟨F.short, b4, o4, A4, c4, rfl, E4, hA4, fun W => run_index_arr (n := 4) (by rfl) (fun w => Tryz.isAgg26 w) (fun w => Tryz.sizeOf26 w) _ 1 (by decide) _ rfl W⟩
    | 2, _ => exact ⟨F.hashed, b5, o5, A5, c5, rfl, E5, hA5, fun W => run_index_arr (n := 4) (by rfl) (fun w => Tryz.isAgg26 w) (fun w => Tryz.sizeOf26 w) _ 2 (by decide) _ rfl W⟩
    | 3, _ => exact ⟨F.other, b6, o6, A6, c6, rfl, E6, hA6, fun W => run_index_arr (n := 4) (by rfl) (fun w => Tryz.isAgg26 w) (fun w => Tryz.sizeOf26 w) _ 3 (by decide) _ rfl W⟩
  have HI := Lib.hid h0; have HS := Lib.hid hS; have HC := Lib.hid hc; have HK := Lib.hid hK; have HF := Lib.hid F1
  have QB := Lib.hid hb; have HN := Lib.hid hn
  have R1 := h.2.2.2.2.1; have R2 := h.2.2.2.2.2
  clear h0 E3 E4 E5 E6 hS h hA3 hA4 hA5 hA6 hc hK F1 hb hn
  go_enter Tryz.func57, Tryz.ntmps57
  go_wp2_with fail
  generalize w.alloc (.cells cs.toArray 33) = wa at B0 W0 HF ⊢
  have HG : Hid (∀ x, Fw i.B (ob :: i.S) wa x → Blk x w.heap.size 33 cs.toArray) := Lib.hid (fun x hx => hx.blk hg (by decide) B0)
  have P1 := Lib.hid W0
  clear B0 W0
  go_loopg [14] 3 (fun g c x => ∃ kk : Nat, kk ≤ 3 ∧ g = 3 - kk ∧ c = .int .i64 kk ∧ BI i M ob wa (offs l.length bs (11 + kk)) (l ++ (bs.take (11 + kk)).flatten) x)
  case atStart => exact ⟨0, by omega, rfl, rfl, P1.out⟩
  case round =>
    obtain ⟨kk, hkk, rfl, rfl, hw⟩ := hrel
    have P2 := Lib.hid hw
    clear hw P1
    by_cases hlt : kk < 3
    · obtain ⟨m, hm⟩ : ∃ m : Nat, m = 11 + kk := ⟨_, rfl⟩
      have hm2 : m < 19 := by omega
      have hm3 : (m : Int) < 19 := by omega
      have hixm : ∀ W, (Instr.index 192 (.agg #[.int .i64 11, .int .i64 12, .int .i64 13]) (.int .i64 kk)).run Tryz.prog W = .ok (.int .i64 m) W := fun W => run_index_arr (n := 3) (by rfl) (fun w => Tryz.isAgg3 w) (fun w => Tryz.sizeOf3 w) _ kk hlt _ (by rw [hm]; match kk, hlt with | 0, _ => rfl | 1, _ => rfl | 2, _ => rfl) W
      have HM := Lib.hid hm
      have P3 := P2.out.drew
      rw [← hm] at P3
      clear hm
      go_wp2_with fail
      clear hixm
      obtain ⟨n, hn⟩ : ∃ n : Int, ((l ++ (bs.take m).flatten).length : Int) = n := ⟨_, rfl⟩
      have P2 := Lib.hid P3
      clear P3
      go_still_tail 6, (by kernel_rfl)
      still_call (offset_q P2.out n hn)
      repeat still_step
      refine wpStill_nil ?_
      change wpList _ _ _ _ _ wr.drew
      have cc := P2.out.cell m 0 (by rw [offs_get _ _ _ _ hm2]; simp)
      have cf := P2.out.frozen m
      generalize wr.drew = w2 at cc cf P2 ⊢
      go_wp2_with fail
      have P1 := Lib.hid (BI.stored P2.out hn)
      clear P2 cc cf
      generalize w2.setCell ⟨ob, m, none⟩ (.int .u32 n) = w3 at P1 ⊢
      refine (uint32_any i w3 _ M 0 (by decide) (by decide) P1.out.1 (by have h1 := HN.out; have h2 := take_flatten_le bs m; simp only [List.length_append]; omega)).mono ?_
      rintro e w4 ⟨rfl, h4, hf4⟩
      have P2 := Lib.hid (P1.out.post ⟨rfl, h4, hf4⟩)
      clear h4 hf4 P1 hn
      have f1 := P2.out.2.1
      have G1 := (HG.out w4 f1).all
      simp only [List.toList_toArray] at G1
      clear f1
      go_wp2_with ((with_reducible refine selD 26 ?_); go_must (refine wpList_load_cs _ rfl 33 _ rfl w.heap.size 0 cs rfl (Tryz.isAgg33 _) (by rw [HC.out.len]; exact Tryz.sizeOf33 _) G1 ?_))
      clear G1
      refine (lists_any w4 cs A3 A4 A5 A6 F.own.length F.short.length F.hashed.length F.other.length c3 c4 c5 c6 HC.out.e3 HC.out.e4 HC.out.e5 HC.out.e6).mono ?_
      rintro e w5 ⟨rfl, hf⟩
      have P3 := Lib.hid (P2.out.fr0 hf)
      clear P2 hf
      go_wp2_with fail
      try rw [show decide ((kk : Int) < 3) = true from by simp; omega]
      go_loopg [28, 8] 4 (fun g c t x => ∃ k : Nat, k ≤ 4 ∧ g = 4 - k ∧ c = .int .i64 k ∧ t = .int .i64 ((idxSt (cnt kk) ((LL F).take k).flatten).2 : Nat) ∧ BI i M ob wa (offs l.length bs (m + 1)) (l ++ (bs.take m).flatten ++ (idxSt (cnt kk) ((LL F).take k).flatten).1) x)
      case atStart => exact ⟨0, by omega, rfl, rfl, rfl, by simpa [idxSt] using P3.out⟩
      case round =>
        obtain ⟨k, hk, rfl, rfl, rfl, hw⟩ := hrel
        have P4 := Lib.hid hw
        clear hw P3
        by_cases hlk : k < 4
        · obtain ⟨ls, b, o, A, c, lk⟩ := HK.out k hlk
          have hix := lk.ix
          have n60 : ls.length ≤ 60 := by have h1 := LL_le F k ls lk.get; have h2 : (defs F).length ≤ 60 := HS.out.nDefs; omega
          have KL := Lib.hid lk
          clear lk
          go_wp2_with fail
          try rw [show decide ((k : Int) < 4) = true from by simp; omega]
          clear hix
          go_loopw [33, 8] (fun c t x => ∃ j : Nat, j ≤ ls.length ∧ c = .int .i64 j ∧ t = .int .i64 ((idxSt (cnt kk) (((LL F).take k).flatten ++ ls.take j)).2 : Nat) ∧ BI i M ob wa (offs l.length bs (m + 1)) (l ++ (bs.take m).flatten ++ (idxSt (cnt kk) (((LL F).take k).flatten ++ ls.take j)).1) x) (fun c _ _ => ls.length - (intOf c).toNat)
          case atStart => exact ⟨0, Nat.zero_le _, rfl, by simp, by simpa using P4.out⟩
          case round =>
            obtain ⟨j, hkj, rfl, rfl, hw⟩ := hrel
            have P5 := Lib.hid hw
            clear hw
            by_cases hlj : j < ls.length
            · obtain ⟨x, hx⟩ : ∃ x, ls[j]? = some x := ⟨_, List.getElem?_eq_getElem hlj⟩
              obtain ⟨cs1, hR, hlen, hc⟩ := KL.out.el j x hx
              have hc' := Sl.at_ hc hlen (by decide) (Fw.old HI.out (HF.out.trans P5.out.2.1) hB)
              obtain rfl := KL.out.ad (by intro e; rw [e] at hlj; simp at hlj)
              have hmem := LL_mem F k ls KL.out.get x (List.mem_of_getElem? hx)
              have hsm := HS.out.defs x hmem
              have hcap := LL_idx F HS.out kk k ls KL.out.get j
              have hcnt := cnt_le HS.out kk x hmem
              have hL : (l ++ (bs.take m).flatten).length ≤ 1000000 := by have h1 := HN.out; have h2 := take_flatten_le bs m; simp only [List.length_append]; omega
              obtain ⟨vr, va, p7, p8, p9, -, hr, ha⟩ := def_parts hR
              have one := def_one hR
              obtain ⟨br, oR, cr, Ar, rfl, -, -⟩ := hr.elim
              obtain ⟨bq, oq, cq, Aq, rfl, -, -⟩ := ha.elim
              have hix2 : ∀ W, (Instr.index 192 (.agg #[.int .i64 x.rels.length, .int .i64 x.auxs.length, .int .i64 x.data.size]) (.int .i64 kk)).run Tryz.prog W = .ok (.int .i64 (cnt kk x : Nat)) W := fun W => run_index_arr (n := 3) (by rfl) (fun w => Tryz.isAgg3 w) (fun w => Tryz.sizeOf3 w) _ kk hlt _ (by match kk, hlt with | 0, _ => rfl | 1, _ => rfl | 2, _ => rfl) W
              have HX1 := Lib.hid hx; have HV := Lib.hid hc'; have HL := Lib.hid hlen; have H1 := Lib.hid one; have HP7 := Lib.hid p7; have HP8 := Lib.hid p8; have HP9 := Lib.hid p9; have HLn := Lib.hid hL; have HCap := Lib.hid hcap
              have s1 := hcap.1
              clear hx hc hc' hlen one hR p7 p8 p9 hr ha hsm hL hcap hmem
              generalize hT : (idxSt (cnt kk) (((LL F).take k).flatten ++ ls.take j)).2 = T at s1
              generalize hC : cnt kk x = C at hcnt hix2
              go_wp2_with (first | ((with_reducible refine selD 36 ?_); go_must (refine wpList_load_cs _ rfl 51 _ rfl b (o + j * 10) cs1 rfl (Tryz.isAgg51 _) (by rw [HL.out]; exact Tryz.sizeOf51 _) HV.out ?_)) | ((with_reducible refine selS 51 ?_); go_must (refine wpList_store_all _ rfl 51 _ _ rfl _ 51 _ cs1 rfl rfl (by rw [HL.out]; exact Tryz.sizeOf51 _) (Blk.new _ 51 _) (by rw [HL.out]; rfl) H1.out ?_; intro w7 hb7 hf7; refine Hid.out ?_)))
              refine Lib.hid ?_
              have d7 : w7.cell? ⟨wr.heap.size, 7, none⟩ = some (.slice Ar x.rels.length cr) := by rw [hb7.cell]; simpa using HP7.out
              have d8 : w7.cell? ⟨wr.heap.size, 8, none⟩ = some (.slice Aq x.auxs.length cq) := by rw [hb7.cell]; simpa using HP8.out
              have d9 : w7.cell? ⟨wr.heap.size, 9, none⟩ = some (.string x.data) := by rw [hb7.cell]; simpa using HP9.out
              have P6 := Lib.hid (P5.out.newSet hf7 (by decide) (by decide) (by decide))
              clear hb7 hf7
              go_wp2_with fail
              clear d7 d8 d9 hix2
              refine (uint32_any i w7 _ M ((T : Int) + C) (by omega) (by omega) P6.out.1 (by have h1 := HLn.out; have h2 := HCap.out.2; rw [List.length_append]; omega)).mono ?_
              rintro e w8 ⟨rfl, h8, hf8⟩
              have P7 := Lib.hid (P6.out.post ⟨rfl, h8, hf8⟩)
              clear h8 hf8 P6
              have hS1 : idxSt (cnt kk) (((LL F).take k).flatten ++ ls.take (j + 1)) = ((idxSt (cnt kk) (((LL F).take k).flatten ++ ls.take j)).1 ++ le4 ((T : Int) + C), T + C) := by
                rw [List.take_add_one, HX1.out]
                simp only [Option.toList]
                rw [← List.append_assoc, idxSt_snoc, hT, hC]
                simp
              have HS1 := Lib.hid hS1
              clear hS1
              go_wp2
              go_roundw
              case rel => exact ⟨j + 1, by omega, by go_num, by rw [HS1.out]; go_num, by
                have h9 := P7.out
                rw [HS1.out]
                simpa using h9⟩
              case measure => simp [intOf]; omega
            · have e : j = ls.length := by omega
              subst e
              go_wp2
              go_roundg (4 - (k + 1))
              case rel => exact ⟨k + 1, by omega, rfl, by go_num, by
                rw [show (LL F).take (k + 1) = (LL F).take k ++ [ls] from by rw [List.take_add_one, KL.out.get]; rfl]; simp, by
                have h9 := P5.out
                rw [show (LL F).take (k + 1) = (LL F).take k ++ [ls] from by rw [List.take_add_one, KL.out.get]; rfl]
                simpa using h9⟩
              case measure => omega
        · have e : k = 4 := by omega
          subst e
          have hX := P4.out
          have eX : ((LL F).take 4).flatten = defs F := by rw [← LL_all]; rfl
          have hbm : bs[m]? = some (idxSt (cnt kk) (defs F)).1 := by rw [HM.out]; exact QB.out kk hlt
          rw [eX, List.append_assoc, ← flat_succ bs m _ hbm] at hX
          have P5 := Lib.hid hX
          clear hX eX hbm P4
          go_wp2
          go_roundg (3 - (kk + 1))
          case rel => exact ⟨kk + 1, by omega, rfl, by go_num, by
            have h9 := P5.out
            rw [HM.out] at h9
            exact h9⟩
          case measure => omega
    · have e : kk = 3 := by omega
      subst e
      go_wp2
      go_end0
      exact ⟨rfl, P2.out.base HF.out R1 R2⟩

end Go.Proofs.YtnhafphgkipldaaGreatDoor

/- More record writers, told over what a walk that writes blocks carries. Conditions: the bytes written stay below 2^31. -/
namespace Go.Proofs.YtnhafphgkipldaaGreatDoor
open Go Go.RowKit

section
variable {i : WId} {M : Tab} {ob : Nat} {w1 x x' : World} {os : List Int} {l : By}
theorem sref_BI (h : BI i M ob w1 os l x) (s : ByteArray) (hs : s.size ≤ 1000000) (ho : ∃ o, u32ok o ∧ tlook M s.data.toList = some o) (hn : l.length ≤ 2000000000) :
    Calls Tryz.prog 52 #[.pointer (some ⟨i.wb, 0, none⟩), .string s] x fun e x' => e = .returned (.tuple #[]) ∧ BI i M ob w1 os (l ++ sref M s) x' := by
  obtain ⟨o, ho, hl⟩ := ho
  have e : strOff M s = o := by simp [strOff, hl]
  exact (stringRef_any i x l M s o hs ho hl h.1 (by omega)).mono fun _ _ k => ⟨k.1, by have := h.post k; simpa [sref, e] using this⟩
theorem sym_BI (h : BI i M ob w1 os l x) (r : Rfd) (hr : r.ok) (hs : r.name.size ≤ 1000000) (ho : ∃ o, u32ok o ∧ tlook M r.name.data.toList = some o) (hn : l.length ≤ 2000000000) :
    Calls Tryz.prog 53 #[.pointer (some ⟨i.wb, 0, none⟩), .string r.name, .agg r.sy.cells.toArray] x fun e x' => e = .returned (.tuple #[]) ∧ BI i M ob w1 os (l ++ r.enc M) x' := by
  obtain ⟨o, ho, hl⟩ := ho
  exact (symbol_any i l M r x hr hs o ho hl h.1 (by omega)).mono fun _ _ k => ⟨k.1, h.post k⟩
theorem imp_BI (h : BI i M ob w1 os l x) (r : Imp) (g : Nat) (hr : r.ok) (hs : r.pkg.size ≤ 1000000) (ho : ∃ o, u32ok o ∧ tlook M r.pkg.data.toList = some o) (hn : l.length ≤ 2000000000) (hb : Blk x g 121 r.cells.toArray) :
    Calls Tryz.prog 51 #[.pointer (some ⟨g, 0, none⟩), .pointer (some ⟨i.wb, 0, none⟩)] x fun e x' => e = .returned (.tuple #[]) ∧ BI i M ob w1 os (l ++ r.enc M) x' := by
  obtain ⟨o, ho, hl⟩ := ho
  exact (impWrite_any i l M g r x hr hs o ho hl h.1 (by omega) hb).mono fun _ _ k => ⟨k.1, h.post k⟩
theorem h64_BI (h : BI i M ob w1 os l x) (v : Int) (hv : u64ok v) (hn : l.length ≤ 2000000000) :
    Calls Tryz.prog 56 #[.pointer (some ⟨i.wb, 0, none⟩), .int .u64 v] x fun e x' => e = .returned (.tuple #[]) ∧ BI i M ob w1 os (l ++ le8 v) x' :=
  (uint64_any i x l M v hv.1 hv.2 h.1 (by omega)).mono fun _ _ k => ⟨k.1, h.post k⟩
theorem hash_BI (h : BI i M ob w1 os l x) (s : By) (g : Nat) (hs : s.length = 16) (hn : l.length ≤ 2000000000) (hb : Blk x g 97 (Lib.byteCells s).toArray) :
    Calls Tryz.prog 46 #[.pointer (some ⟨i.wb, 0, none⟩), .slice (some ⟨g, 0, none⟩) 16 16] x fun e x' => e = .returned (.tuple #[]) ∧ BI i M ob w1 os (l ++ s) x' := by
  have hne := h.1.out hb (by decide) (by decide)
  simp only [WId.S, List.mem_cons, List.not_mem_nil, or_false, not_or] at hne
  refine (bytes_any i x l s M ⟨g, 0, none⟩ 16 16 h.1 (by omega) hs hne.2.1 ?_).mono fun _ _ k => ⟨k.1, h.post k⟩
  have := hb.all
  simp only [List.toList_toArray] at this
  exact this.addr
theorem BI.frNew {g : Nat} {T : TypeId} {cs : Array Value} (h : BI i M ob w1 os l x) (f : Fr [g] x x') (hg : w1.heap.size ≤ g) (hb : Blk x g T cs) (h5 : T ≠ 5) (h113 : T ≠ 113) (h69 : T ≠ 69) : BI i M ob w1 os l x' :=
  ⟨h.1.keep f (by simp only [List.mem_singleton]; rintro y rfl; exact .inr ⟨T, cs, hb, h5, h113, h69⟩), h.2.1.thenNew f h.2.2.2.2.1 hg, f.blk (by simp only [List.mem_singleton]; have := h.2.2.2.2.2; omega) h.2.2.1, h.2.2.2⟩
def z8 : List Value := [.int .u8 0, .int .u8 0, .int .u8 0, .int .u8 0, .int .u8 0, .int .u8 0, .int .u8 0, .int .u8 0]
def z16 : List Value := [.int .u8 0, .int .u8 0, .int .u8 0, .int .u8 0, .int .u8 0, .int .u8 0, .int .u8 0, .int .u8 0, .int .u8 0, .int .u8 0, .int .u8 0, .int .u8 0, .int .u8 0, .int .u8 0, .int .u8 0, .int .u8 0]
theorem namSym_BI (h : BI i M ob w1 os l x) (r : Ref) (g : Nat) (hr : r.ok) (hg : w1.heap.size ≤ g) (hb : Blk x g 129 z16.toArray) :
    Calls Tryz.prog 59 #[.pointer (some ⟨g, 0, none⟩), .agg r.cells.toArray] x fun e x' => e = .returned (.tuple #[]) ∧ BI i M ob w1 os l x' ∧ Blk x' g 129 (Lib.byteCells r.enc ++ z8).toArray ∧ Fr [g] x x' :=
  (namSetSym_any g [] z8 _ _ _ _ _ _ _ _ r x hr rfl hb).mono fun _ _ ⟨a, b, c⟩ => ⟨a, h.frNew c hg hb (by decide) (by decide) (by decide), b, c⟩
theorem namName_BI (h : BI i M ob w1 os l x) (n : Nam) (g : Nat) (hs : n.name.size ≤ 1000000) (ho : ∃ o, u32ok o ∧ tlook M n.name.data.toList = some o) (hg : w1.heap.size ≤ g) (hb : Blk x g 129 (Lib.byteCells n.ref.enc ++ z8).toArray) :
    Calls Tryz.prog 61 #[.pointer (some ⟨g, 0, none⟩), .string n.name, .pointer (some ⟨i.wb, 0, none⟩)] x fun e x' => e = .returned (.tuple #[]) ∧ BI i M ob w1 os l x' ∧ Blk x' g 129 (Lib.byteCells (n.enc M)).toArray := by
  obtain ⟨o, ho, hl⟩ := ho
  have e : strOff M n.name = o := by simp [strOff, hl]
  refine (namSetName_any i l M g _ [] _ _ _ _ _ _ _ _ n.name o x hs ho hl h.1 (by rw [bc_len]; rfl) hb).mono ?_
  rintro e' x' ⟨rfl, _, hb', hf⟩
  exact ⟨rfl, h.frNew hf hg hb (by decide) (by decide) (by decide), by simpa [Nam.enc, sref, e, bc_app] using hb'⟩
theorem namW_BI (h : BI i M ob w1 os l x) (n : Nam) (g : Nat) (hn : l.length ≤ 2000000000) (hb : Blk x g 129 (Lib.byteCells (n.enc M)).toArray) :
    Calls Tryz.prog 62 #[.pointer (some ⟨g, 0, none⟩), .pointer (some ⟨i.wb, 0, none⟩)] x fun e x' => e = .returned (.tuple #[]) ∧ BI i M ob w1 os (l ++ n.enc M) x' :=
  (namWrite_any i l (n.enc M) M g x h.1 (nam_len M n) (by omega) hb).mono fun _ _ k => ⟨k.1, h.post k⟩
end

end Go.Proofs.YtnhafphgkipldaaGreatDoor
