/- laws.FnFileWhole returns true, whatever the file. Conditions: its lists are no longer than 2^63 - 1. -/
import Derived.Test.YtnhafphgkipldaaGreatDoorSl
import Derived.Test.YtnhafphgkipldaaGreatDoorRr
import Derived.Test.YtnhafphgkipldaaGreatDoorPe
namespace Go.Proofs.YtnhafphgkipldaaGreatDoor
open Go Go.RowKit

section
variable {P : Program} {Q : Exit → Act → World → Prop} {S : World → Prop} {l t tl : List Oper} {i : Nat} {o : Oper} {r : List (Nat × Bool)} {a : Act} {w : World}
theorem plan_qw (v : Value) (hd : l.drop i = o :: t) (hw : Region.wanted o (yielded l.toArray a.tmps) = true)
    (hrun : ∀ z, S z → (execOp a.eval o).run P z = .ok (.value v) z) (h : wpPlan P l.toArray Q S tl r (a.put o.dst v) w) : wpPlan P l.toArray Q S tl ((i, true) :: r) a w :=
  ⟨o, v, drop_at hd, .inl ⟨hw, hrun⟩, h⟩
theorem plan_lw (hd : l.drop i = o :: t) (hw : Region.wanted o (yielded l.toArray a.tmps) = true)
    (h : Oper.wp P o a w (fun a' w' => S w' ∧ wpPlan P l.toArray Q S tl r a' w') Q) : wpPlan P l.toArray Q S tl ((i, false) :: r) a w := by
  show wpOp P l.toArray Q i _ a w
  unfold wpOp
  rw [drop_at hd]
  simp only [hw, if_true]
  exact .inl h
theorem wp_call {K : Act → World → Prop} (f : Nat) (xs : Array Operand) (ts : Array TypeId) (ho : o.op = .call { callee := .value (.func f), args := xs, argTypes := ts }) (vals : Array Value) (hv : xs.map a.eval = vals)
    (hf : (callFunc f vals).run P w = .ok (.enter f vals) w) {R : Ending → World → Prop} (hc : Calls P f vals w R) (hR : ∀ e w', R e w' → ∃ v, e = .returned v ∧ K (a.put o.dst v) w') : Oper.wp P o a w K Q := by
  unfold Oper.wp
  simp [execOp, ho, resolve, invoke, hv, hf, Act.eval, Result.andThen, Oper.upon, go_sem]
  refine hc.mono ?_
  intro e w' h
  obtain ⟨v, rfl, hk⟩ := hR e w' h
  exact hk
theorem wp_call1 {K : Act → World → Prop} (f : Nat) (x1 : Operand) (ts : Array TypeId) (ho : o.op = .call { callee := .value (.func f), args := #[x1], argTypes := ts }) (v1 : Value) (h1 : a.eval x1 = v1)
    (hf : (callFunc f #[v1]).run P w = .ok (.enter f #[v1]) w) {R : Ending → World → Prop} (hc : Calls P f #[v1] w R) (hR : ∀ e w', R e w' → ∃ v, e = .returned v ∧ K (a.put o.dst v) w') : Oper.wp P o a w K Q :=
  wp_call f #[x1] ts ho _ (by simp [h1]) hf hc hR
theorem wp_op {K : Act → World → Prop} (v : Value) (hrun : (execOp a.eval o).run P w = .ok (.value v) w) (h : K (a.put o.dst v) w) : Oper.wp P o a w K Q := by
  unfold Oper.wp
  rw [hrun]
  exact h
end
theorem conv_back {z : World} {b c : Nat} {l : By} (h : Cs z b 0 (Lib.byteCells l)) : (convert 35 9 (.slice (some ⟨b, 0, none⟩) l.length c)).run Tryz.prog z = .ok (.string ⟨l.toArray⟩) z :=
  run_convert_bytes_back (P := Tryz.prog) z 35 9 5 ⟨b, 0, none⟩ c l (by kernel_rfl) (by kernel_rfl) (by kernel_rfl) (fun j hj => by
    have := h j (.int .u8 (l[j].toNat : Int)) (by rw [bc_get, List.getElem?_eq_getElem hj]; rfl)
    rw [Lib.addr_add]; exact this)
theorem fil_one {w : World} {cs : List Value} {F : Fil} {v0 v1 v2 v3 v4 v5 v6 v7 v8 v9 v10 v11 : Value} (hc : FilC cs F v0 v1 v2 v3 v4 v5 v6 v7 v8 v9 v10 v11) (k : FilS w F v0 v1 v2 v3 v4 v5 v6 v7 v8 v9 v10 v11) : ∀ u ∈ cs, u.oneCell' = true := by
  intro u hu
  obtain ⟨i, hi⟩ := List.mem_iff_getElem?.1 hu
  have hl : i < 21 := by have := (List.getElem?_eq_some_iff.1 hi).1; rw [hc.len] at this; exact this
  by_cases h8 : i < 8
  · have : (cs.take 8)[i]? = some u := by rw [List.getElem?_take, if_pos h8]; exact hi
    rw [hc.fp] at this
    exact bc_one _ u (List.mem_of_getElem? this)
  · have hcase : i = 8 ∨ i = 9 ∨ i = 10 ∨ i = 11 ∨ i = 12 ∨ i = 13 ∨ i = 14 ∨ i = 15 ∨ i = 16 ∨ i = 17 ∨ i = 18 ∨ i = 19 ∨ i = 20 := by omega
    rcases hcase with rfl | rfl | rfl | rfl | rfl | rfl | rfl | rfl | rfl | rfl | rfl | rfl | rfl
    · rw [hc.fl] at hi; injection hi with hi; subst hi; rfl
    · rw [hc.e0] at hi; injection hi with hi; subst hi; exact k.s0.one
    · rw [hc.e1] at hi; injection hi with hi; subst hi; exact k.s1.one
    · rw [hc.e2] at hi; injection hi with hi; subst hi; exact k.s2.one
    · rw [hc.e3] at hi; injection hi with hi; subst hi; exact k.s3.one
    · rw [hc.e4] at hi; injection hi with hi; subst hi; exact k.s4.one
    · rw [hc.e5] at hi; injection hi with hi; subst hi; exact k.s5.one
    · rw [hc.e6] at hi; injection hi with hi; subst hi; exact k.s6.one
    · rw [hc.e7] at hi; injection hi with hi; subst hi; exact k.s7.one
    · rw [hc.e8] at hi; injection hi with hi; subst hi; exact k.s8.one
    · rw [hc.e9] at hi; injection hi with hi; subst hi; exact k.s9.one
    · rw [hc.e10] at hi; injection hi with hi; subst hi; exact k.s10.one
    · rw [hc.e11] at hi; injection hi with hi; subst hi; exact k.s11.one

set_option maxHeartbeats 3200000 in
set_option maxRecDepth 100000 in
theorem whole_any (F : Fil) (v : Value) (w : World) (hL : Lens F) (h : FilR w v F) : Calls Tryz.prog 3 #[v] w fun e w' => e = .returned (.bool true) ∧ Fr [] w w' := by
  have HFR := Lib.hid h
  obtain ⟨cs, v0, v1, v2, v3, v4, v5, v6, v7, v8, v9, v10, v11, rfl, hc, hk⟩ := h
  have HC := Lib.hid hc; have HLn := Lib.hid hL; have HK := Lib.hid hk
  have T0 := Lib.hid (Box.new (cs := cs) hk)
  obtain ⟨A9, k9, e9, -⟩ := hk.s9
  obtain ⟨A10, k10, e10, -⟩ := hk.s10
  subst e9 e10
  clear hc hL hk
  go_enter Tryz.func3, Tryz.ntmps3
  go_wp2_with ((with_reducible refine selD 5 ?_); refine Hid.out ?_)
  refine Lib.hid ?_
  generalize w.alloc (.cells cs.toArray 33) = z0 at T0 ⊢
  generalize hgA : w.heap.size = gA at T0 ⊢
  clear hgA
  have ha := T0.out.a.all
  simp only [List.toList_toArray] at ha
  have HA0 := Lib.hid ha
  clear ha
  go_wp2_with ((with_reducible refine selD 5 ?_); go_must (refine wpList_load_cs _ rfl 33 _ rfl gA 0 cs rfl (Tryz.isAgg33 _) (by rw [HC.out.len]; exact Tryz.sizeOf33 _) HA0.out ?_))
  refine (fits6_any F (.agg cs.toArray) z0 HLn.out (HFR.out.old T0.out.fr.below)).mono ?_
  rintro e z1 ⟨r, rfl, hr, f1⟩
  have T1 := Lib.hid (T0.out.fr0 f1)
  have HR := Lib.hid hr
  clear f1 T0 hr HA0
  cases r
  · go_wp2; go_ret; exact ⟨rfl, T1.out.fr⟩
  have SH : Hid (Short F) := Lib.hid (HR.out rfl)
  have ha := T1.out.a.all
  simp only [List.toList_toArray] at ha
  have HA1 := Lib.hid ha
  clear ha HR
  go_wp2_with ((with_reducible refine selD 8 ?_); go_must (refine wpList_load_cs _ rfl 33 _ rfl gA 0 cs rfl (Tryz.isAgg33 _) (by rw [HC.out.len]; exact Tryz.sizeOf33 _) HA1.out ?_))
  refine (small_any F (.agg cs.toArray) z1 SH.out HLn.out (HFR.out.old T1.out.fr.below)).mono ?_
  rintro e z2 ⟨r, rfl, hr, f2⟩
  have T2 := Lib.hid (T1.out.fr0 f2)
  have HR := Lib.hid hr
  clear f2 T1 hr HA1
  cases r
  · go_wp2; go_ret; exact ⟨rfl, T2.out.fr⟩
  have SM : Hid (Small F) := Lib.hid (HR.out rfl)
  have ha := T2.out.a.all
  simp only [List.toList_toArray] at ha
  have HA2 := Lib.hid ha
  clear ha HR
  go_wp2_with ((with_reducible refine selD 11 ?_); go_must (refine wpList_load_cs _ rfl 33 _ rfl gA 0 cs rfl (Tryz.isAgg33 _) (by rw [HC.out.len]; exact Tryz.sizeOf33 _) HA2.out ?_))
  refine (build_any F (.agg cs.toArray) z2 (HFR.out.old T2.out.fr.below) SM.out).mono ?_
  rintro e z3 ⟨b, c, rfl, hcap, hcs, hbz, hbl⟩
  have T3 := Lib.hid (T2.out.fr0 (Fr.of_below hbl))
  have HCS := Lib.hid hcs; have HCAP := Lib.hid hcap
  have EF : Hid (Ef F (encF F) (osF F) (oF F)) := Lib.hid (ef_enc SM.out HFR.out)
  have hpos : 0 < (encF F).length := by
    have h1 := headB_len F (osF F) HC.out.fpl (osF_len F)
    unfold encF; simp only [List.length_append]; omega
  obtain ⟨n, hn⟩ : ∃ n, n = (encF F).length := ⟨_, rfl⟩
  rw [← hn] at hpos ⊢
  have HN := Lib.hid hn
  clear hcap hcs hbz hbl hn T2 HA2
  have g18 := T3.out.cell 18 _ HC.out.e9; have g19 := T3.out.cell 19 _ HC.out.e10
  have IN3 : Hid (In (encF F) z3 b c) := Lib.hid ⟨HCAP.out, HCS.out, cs_lt HCS.out (by rw [bc_len, ← HN.out]; exact hpos)⟩
  go_wp2_with fail
  have q := reread_any EF.out IN3.out
  rw [← HN.out] at q
  refine q.mono ?_
  clear q g18 g19
  rintro e z4 ⟨v', rfl, hv', f4⟩
  obtain ⟨ds, u0, u1, u2, u3, u4, u5, u6, u7, u8, u9, u10, u11, rfl, hd, hm⟩ := id hv'
  have T4 := Lib.hid (T3.out.fr0 f4); have HV := Lib.hid hv'; have HD := Lib.hid hd
  have HONE := Lib.hid (fil_one hd hm)
  have C4 : Hid (Cs z4 b 0 (Lib.byteCells (encF F))) := Lib.hid (f4.cs (by simp) HCS.out)
  clear hv' hd hm f4 T3 IN3
  go_wp2_with ((with_reducible refine selS 33 ?_); go_must (refine wpList_store_all _ rfl 33 _ _ rfl _ 33 _ ds rfl rfl (by rw [HD.out.len]; exact Tryz.sizeOf33 _) (Blk.new _ 33 _) (by rw [HD.out.len]; rfl) HONE.out ?_; intro z5 hb5 hf5; refine Hid.out ?_))
  refine Lib.hid ?_
  have f5 : Fr [] z4 z5 := ((Fr.refl [] z4).alloc _ |>.mono (S' := [z4.heap.size]) (by simp)).trans hf5 |>.mono (S' := []) (by simp)
  have hb6 := hb5.all
  simp only [List.toList_toArray] at hb6
  have HB5 := Lib.hid hb6
  have T5 := Lib.hid (T4.out.fr0 f5); have V5 := Lib.hid (HV.out.old f5.below)
  have C5 : Hid (Cs z5 b 0 (Lib.byteCells (encF F))) := Lib.hid (f5.cs (by simp) C4.out)
  have ha := T5.out.a.all
  simp only [List.toList_toArray] at ha
  have HA5 := Lib.hid ha
  clear hb5 hf5 f5 hb6 T4 HV C4 ha
  generalize z4.heap.size = gB at HB5 ⊢
  go_wp2_with fail
  refine wp_region_plan 11 [(0, true), (1, true), (2, false), (3, true), (4, true), (7, true), (8, true), (5, false), (6, false), (9, true), (10, true)] (fun z => Fr [] z5 z) (by kernel_rfl) (by kernel_rfl) (Fr.refl [] z5).drew ?_
  refine plan_load 33 _ gB 0 ds (by rfl) rfl rfl rfl (fun _ => by kernel_rfl) (by intro z; rw [HD.out.len]; exact Tryz.sizeOf33 z) (fun z hz => hz.cs (by simp) HB5.out) ?_
  simp only [Act.put, List.setIfInBounds_toArray, List.set_cons_zero, List.set_cons_succ]
  refine plan_load 33 _ gA 0 cs (by rfl) rfl rfl rfl (fun _ => by kernel_rfl) (by intro z; rw [HC.out.len]; exact Tryz.sizeOf33 z) (fun z hz => hz.cs (by simp) HA5.out) ?_
  simp only [Act.put, List.setIfInBounds_toArray, List.set_cons_zero, List.set_cons_succ]
  refine plan_l (by rfl) ?_ rfl
  refine step_call2 rfl 8 _ _ _ rfl (.agg ds.toArray) (.agg cs.toArray) rfl rfl (by kernel_rfl) (sameFile_any F _ _ z5.drew SM.out (V5.out.old (Fr.refl [] z5).drew.below) (HFR.out.old (T5.out.fr.drew).below)) ?_
  rintro e z6 ⟨rfl, f6⟩
  have G6 := Lib.hid ((Fr.refl [] z5).drew.trans f6)
  clear f6
  refine ⟨_, rfl, G6.out, ?_⟩
  simp only [Act.put, List.setIfInBounds_toArray, List.set_cons_zero, List.set_cons_succ]
  refine plan_move _ (.bool true) (by rfl) rfl rfl rfl ?_
  simp only [Act.put, List.setIfInBounds_toArray, List.set_cons_zero, List.set_cons_succ]

  refine plan_qw (.agg ds.toArray) (by rfl) (by rfl) (fun z hz => ?_) ?_
  · have hl := run_loadCells_list (P := Tryz.prog) z ⟨gB, 0, none⟩ ds (Cs.addr (Fr.cs (S := []) hz (by simp) HB5.out))
    have hrun : (Instr.loadAt 33 (.pointer (some ⟨gB, 0, none⟩))).run Tryz.prog z = .ok (.agg ds.toArray) z := by
      have h1 := HD.out.len
      have h2 := Tryz.sizeOf33 z
      rw [← h1] at h2
      simp [Instr.loadAt, Instr.sureAddr, loadVar, Tryz.isAgg33 z, h2, hl, Result.andThen]
    simp [execOp, Act.eval, hrun, Result.andThen]
  simp only [Act.put, List.setIfInBounds_toArray, List.set_cons_zero, List.set_cons_succ]

  refine plan_qw (.slice (some ⟨b, 0, none⟩) n c) (by rfl) (by rfl) (fun z hz => by simp [execOp, Act.eval]) ?_
  simp only [Act.put, List.setIfInBounds_toArray, List.set_cons_zero, List.set_cons_succ]
  refine plan_qw (.string ⟨(encF F).toArray⟩) (by rfl) (by rfl) (fun z hz => ?_) ?_
  · have hrun := conv_back (c := c) (Fr.cs (S := []) hz (by simp) C5.out)
    rw [← HN.out] at hrun
    simp [execOp, Act.eval, hrun, Result.andThen]
  simp only [Act.put, List.setIfInBounds_toArray, List.set_cons_zero, List.set_cons_succ]

  refine plan_lw (by rfl) (by rfl) ?_
  refine wp_call1 6 _ _ rfl (.agg ds.toArray) rfl (by kernel_rfl) (build_any F (.agg ds.toArray) z6 (V5.out.old G6.out.below) SM.out) ?_
  rintro e z7 ⟨b2, c2, rfl, hcap2, hcs2, hbz2, hbl2⟩
  have G7 := Lib.hid (G6.out.trans (Fr.of_below hbl2))
  have CS7 := Lib.hid hcs2
  clear hcap2 hcs2 hbz2 hbl2
  refine ⟨_, rfl, G7.out, ?_⟩
  rw [← HN.out]
  simp only [Act.put, List.setIfInBounds_toArray, List.set_cons_zero, List.set_cons_succ]

  refine plan_lw (by rfl) (by rfl) ?_
  refine wp_op (.string ⟨(encF F).toArray⟩) ?_ ?_
  · have hrun := conv_back (c := c2) CS7.out
    rw [← HN.out] at hrun
    simp [execOp, Act.eval, hrun, Result.andThen]
  refine ⟨G7.out, ?_⟩
  simp only [Act.put, List.setIfInBounds_toArray, List.set_cons_zero, List.set_cons_succ]

  refine plan_qw (.bool true) (by rfl) (by rfl) (fun z hz => by go_simp) ?_
  simp only [Act.put, List.setIfInBounds_toArray, List.set_cons_zero, List.set_cons_succ]
  refine plan_qw (.bool true) (by rfl) (by rfl) (fun z hz => by go_simp) ?_
  simp only [Act.put, List.setIfInBounds_toArray, List.set_cons_zero, List.set_cons_succ]
  refine plan_nil ?_
  refine tail_op (.bool true) rfl (by go_simp) ?_
  simp only [Act.put, List.setIfInBounds_toArray, List.set_cons_zero, List.set_cons_succ]
  go_wp2_with fail
  go_ret
  exact ⟨rfl, T5.out.fr.trans G7.out⟩

end Go.Proofs.YtnhafphgkipldaaGreatDoor
