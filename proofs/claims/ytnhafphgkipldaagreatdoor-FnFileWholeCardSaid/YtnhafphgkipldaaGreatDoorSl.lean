/- spec.Small: a bool, and true only where the file is within the bounds of the statement. Conditions: the lists are short. -/
import Derived.Test.YtnhafphgkipldaaGreatDoorAll
namespace Go.Proofs.YtnhafphgkipldaaGreatDoor
open Go Go.RowKit

theorem FitB.val {p : Prop} {w w' : World} (r : Bool) (hr : r = true → p) (f : Fr [] w w') : FitB p w (.returned (.bool r)) w' := ⟨r, rfl, hr, f⟩
def mx2 (x y : Int) : Int := if y > x then y else x
def mx7 (a b c d e f g : Int) : Int := mx2 (mx2 (mx2 (mx2 (mx2 (mx2 a b) c) d) e) f) g
theorem mx7_le {a b c d e f g n : Int} (h : mx7 a b c d e f g ≤ n) : a ≤ n ∧ b ≤ n ∧ c ≤ n ∧ d ≤ n ∧ e ≤ n ∧ f ≤ n ∧ g ≤ n := by
  have k : ∀ {x y : Int}, mx2 x y ≤ n → x ≤ n ∧ y ≤ n := by intro x y h; unfold mx2 at h; split at h <;> omega
  unfold mx7 at h
  obtain ⟨h, hg⟩ := k h
  obtain ⟨h, hf⟩ := k h
  obtain ⟨h, he⟩ := k h
  obtain ⟨h, hd⟩ := k h
  obtain ⟨h, hc⟩ := k h
  obtain ⟨h, hb⟩ := k h
  exact ⟨h, hb, hc, hd, he, hf, hg⟩
section
variable {P : Program} {Q : Exit → Act → World → Prop} {S : World → Prop} {l t tl : List Oper} {i : Nat} {o : Oper} {r : List (Nat × Bool)} {a : Act} {w : World}
theorem plan_len (T e : TypeId) (x : Operand) (A : Option Addr) (n c : Nat) (hu : P.underlying T = some (.slice e)) (hd : l.drop i = o :: t) (hg : o.guard = none) (hop : o.op = .call { callee := .builtin .len, args := #[x], argTypes := #[T] }) (hx : a.eval x = .slice A n c)
    (h : wpPlan P l.toArray Q S tl r (a.put o.dst (.int .i64 n)) w) : wpPlan P l.toArray Q S tl ((i, true) :: r) a w := by
  refine plan_q _ hd hg (fun z _ => ?_) h
  have hm : (Builtin.len_ #[T] o.type #[.slice A n c]).run P z = .ok (.int .i64 n) z := by
    simp [Builtin.len_, run_underlying hu, Result.andThen, goInt]
  simp [execOp, hop, resolve, invoke, builtin, hx, hm, Result.andThen]
theorem plan_max7 (x1 x2 x3 x4 x5 x6 x7 : Operand) (ts : Array TypeId) (n1 n2 n3 n4 n5 n6 n7 : Int) (hd : l.drop i = o :: t) (hg : o.guard = none) (hop : o.op = .call { callee := .builtin .max, args := #[x1, x2, x3, x4, x5, x6, x7], argTypes := ts })
    (h1 : a.eval x1 = .int .i64 n1) (h2 : a.eval x2 = .int .i64 n2) (h3 : a.eval x3 = .int .i64 n3) (h4 : a.eval x4 = .int .i64 n4) (h5 : a.eval x5 = .int .i64 n5) (h6 : a.eval x6 = .int .i64 n6) (h7 : a.eval x7 = .int .i64 n7)
    (h : wpPlan P l.toArray Q S tl r (a.put o.dst (.int .i64 (mx7 n1 n2 n3 n4 n5 n6 n7))) w) : wpPlan P l.toArray Q S tl ((i, true) :: r) a w := by
  refine plan_q _ hd hg (fun z _ => ?_) h
  have hm : (Builtin.max_ ts o.type #[.int .i64 n1, .int .i64 n2, .int .i64 n3, .int .i64 n4, .int .i64 n5, .int .i64 n6, .int .i64 n7]).run P z = .ok (.int .i64 (mx7 n1 n2 n3 n4 n5 n6 n7)) z := by
    simp [Builtin.max_, Builtin.max2, List.foldlM, mx7, mx2]
  simp [execOp, hop, resolve, invoke, builtin, h1, h2, h3, h4, h5, h6, h7, hm, Result.andThen]
end
def dOk (d : Def) : Prop := d.name.size ≤ 100 ∧ d.data.size ≤ 200 ∧ d.rels.length ≤ 20 ∧ d.auxs.length ≤ 20
set_option maxHeartbeats 6400000 in
set_option maxRecDepth 100000 in
theorem small_any (F : Fil) (v : Value) (w : World) (hS : Short F) (hL : Lens F) (h : FilR w v F) : Calls Tryz.prog 5 #[v] w (FitB (Small F) w) := by
  have HFR := Lib.hid h
  obtain ⟨cs, v0, v1, v2, v3, v4, v5, v6, v7, v8, v9, v10, v11, rfl, hc, hk⟩ := h
  have HC := Lib.hid hc; have HSh := Lib.hid hS; have HLn := Lib.hid hL
  have T0 := Lib.hid (Box.new (cs := cs) hk)
  have hlens : (defs F).length ≤ 8589934588 := by
    have h2 : (defs F).length = F.own.length + F.short.length + F.hashed.length + F.other.length := by simp [defs, Nat.add_assoc]
    have := hS.1; have := hS.2.1; have := hS.2.2.1; have := hS.2.2.2
    omega
  have HLens := Lib.hid hlens
  obtain ⟨b7, o7, k7, A7, e7, a7, E7⟩ := hk.s7.elim
  obtain ⟨b11, o11, k11, A11, e11, a11, E11⟩ := hk.s11.elim
  obtain ⟨b0, o0, k0, A0, e0, a0, E0⟩ := hk.s0.elim
  obtain ⟨b1, o1, k1, A1, e1, a1, E1⟩ := hk.s1.elim
  obtain ⟨b2, o2, k2, A2, e2, a2, E2⟩ := hk.s2.elim
  obtain ⟨A4, k4, e4, -⟩ := hk.s4
  obtain ⟨A5, k5, e5, -⟩ := hk.s5
  obtain ⟨A8, k8, e8, -⟩ := hk.s8
  obtain ⟨A9, k9, e9, -⟩ := hk.s9
  obtain ⟨A10, k10, e10, -⟩ := hk.s10
  have G7 := Lib.hid a7; have R7 := Lib.hid E7; have G11 := Lib.hid a11; have R11 := Lib.hid E11; have G0 := Lib.hid a0; have R0 := Lib.hid E0; have G1 := Lib.hid a1; have R1 := Lib.hid E1; have G2 := Lib.hid a2; have R2 := Lib.hid E2
  clear a7 E7 a11 E11 a0 E0 a1 E1 a2 E2 hk
  subst e7 e11 e0 e1 e2 e4 e5 e8 e9 e10
  have hb7 := HLn.out.l7; have hb11 := HLn.out.l11; have hb0 := HLn.out.l0; have hb1 := HLn.out.l1; have hb2 := HLn.out.l2
  clear hc hS hL
  go_enter Tryz.func5, Tryz.ntmps5
  go_wp2_with ((with_reducible refine selD 16 ?_); refine Hid.out ?_)
  refine Lib.hid ?_
  generalize w.alloc (.cells cs.toArray 33) = z0 at T0 ⊢
  generalize hgA : w.heap.size = gA at T0 ⊢
  clear hgA
  have ha := T0.out.a.all
  simp only [List.toList_toArray] at ha
  have HALL := Lib.hid ha
  clear ha
  go_wp2_with ((with_reducible refine selD 16 ?_); go_must (refine wpList_load_cs _ rfl 33 _ rfl gA 0 cs rfl (Tryz.isAgg33 _) (by rw [HC.out.len]; exact Tryz.sizeOf33 _) HALL.out ?_))
  refine (all_any F (.agg cs.toArray) z0 HSh.out (HFR.out.old T0.out.fr.below)).mono ?_
  rintro e z1 ⟨V, rfl, hV, f1⟩
  have T1 := Lib.hid (T0.out.fr0 f1)
  obtain ⟨bV, oV, cV, AV, rfl, hAV, hEV⟩ := hV.elim
  have HAV := Lib.hid hAV; have HEV := Lib.hid hEV
  clear f1 hV hAV hEV T0 HALL
  obtain ⟨nd, hnd⟩ : ∃ nd, nd = (defs F).length := ⟨_, rfl⟩
  rw [← hnd] at hlens ⊢
  have HND := Lib.hid hnd
  clear hnd
  go_wp2_with fail
  go_loopw [19] (fun c0 y => ∃ k : Nat, k ≤ nd ∧ c0 = .int .i64 k ∧ Box F w gA cs (.slice A0 F.imports.length k0) (.slice A1 F.packages.length k1) (.slice A2 F.files.length k2) v3 (.slice A4 F.short.length k4) (.slice A5 F.hashed.length k5) v6 (.slice A7 F.refs.length k7) (.slice A8 F.refFlags.length k8) (.slice A9 F.hashes64.length k9) (.slice A10 F.hashes.length k10) (.slice A11 F.refNames.length k11) y ∧ Fr [] z1 y ∧ ∀ i < k, ∀ d, (defs F)[i]? = some d → dOk d) (fun c _ => nd - (intOf c).toNat)
  case atStart => exact ⟨0, Nat.zero_le _, rfl, T1.out, Fr.refl _ _, fun i hi => by omega⟩
  case round =>
    obtain ⟨k, hk, rfl, ht, hf, hd⟩ := hrel
    have T2 := Lib.hid ht; have F2 := Lib.hid hf; have D2 := Lib.hid hd
    clear ht hf hd
    by_cases hlt : k < nd
    · obtain ⟨x, hx⟩ : ∃ x, (defs F)[k]? = some x := ⟨_, List.getElem?_eq_getElem (by rw [← HND.out]; exact hlt)⟩
      have hne : defs F ≠ [] := by intro e; rw [e] at hx; simp at hx
      obtain rfl := HAV.out hne
      obtain ⟨cx, hR, hl, hcx⟩ := HEV.out k x hx
      have h0k : (0 : Int) ≤ (k : Int) := by omega
      have hkl : (k : Int) < (nd : Int) := by omega
      have HX := Lib.hid hx; have HCX := Lib.hid (F2.out.cs (by simp) hcx); have HL := Lib.hid hl; have HONE := Lib.hid (def_one hR)
      obtain ⟨vr, va, e7, e8, e9, _, s1, s2⟩ := def_parts hR
      obtain ⟨Ax, kx, rfl, _⟩ := s1
      obtain ⟨Ay, ky, rfl, _⟩ := s2
      have e0 := (def_sy2 hR).2.1
      have EE0 := Lib.hid e0; have EE7 := Lib.hid e7; have EE8 := Lib.hid e8; have EE9 := Lib.hid e9
      clear hx hne hR hl hcx e0 e7 e8 e9
      go_wp2_with (first | ((with_reducible refine selD 22 ?_); go_must (refine wpList_load_cs _ rfl 51 _ rfl bV (oV + k * 10) cx rfl (Tryz.isAgg51 _) (by rw [HL.out]; exact Tryz.sizeOf51 _) HCX.out ?_)) | ((with_reducible refine selS 51 ?_); go_must (refine wpList_store_all _ rfl 51 _ _ rfl _ 51 _ cx rfl rfl (by rw [HL.out]; exact Tryz.sizeOf51 _) (Blk.new _ 51 _) (by rw [HL.out]; rfl) HONE.out ?_; intro w5 hb5 hf5; refine Hid.out ?_)))
      refine Lib.hid ?_
      have f5 : Fr [] wr w5 := ((Fr.refl [] wr).alloc _ |>.mono (S' := [wr.heap.size]) (by simp)).trans hf5 |>.mono (S' := []) (by simp)
      have hcell : ∀ i u, cx[i]? = some u → w5.cell? ⟨wr.heap.size, i, none⟩ = some u := fun i u hu => by rw [hb5.cell]; simpa using hu
      have c0 := hcell 0 _ EE0.out
      have c7 := hcell 7 _ EE7.out
      have c8 := hcell 8 _ EE8.out
      have c9 := hcell 9 _ EE9.out
      have T5 := Lib.hid (T2.out.fr0 f5); have F5 := Lib.hid (F2.out.trans f5)
      clear hb5 hf5 f5 hcell
      generalize wr.heap.size = sb at c0 c7 c8 c9 ⊢
      by_cases q1 : x.name.size ≤ 100
      · have d1 : decide ((100 : Int) < (x.name.size : Int)) = false := by simp; omega
        by_cases q2 : x.data.size ≤ 200
        · have d2 : decide ((200 : Int) < (x.data.size : Int)) = false := by simp; omega
          by_cases q3 : x.rels.length ≤ 20
          · have d3 : decide ((20 : Int) < (x.rels.length : Int)) = false := by simp; omega
            by_cases q4 : x.auxs.length ≤ 20
            · have d4 : decide ((20 : Int) < (x.auxs.length : Int)) = false := by simp; omega
              have HQ : Hid (dOk x) := Lib.hid ⟨q1, q2, q3, q4⟩
              clear q1 q2 q3 q4
              go_wp2_with fail
              go_roundw
              case rel => exact ⟨k + 1, by omega, by go_num, T5.out, F5.out, fun i hi d hd => by
                by_cases e : i = k
                · subst e; rw [HX.out] at hd; injection hd with hd; rw [← hd]; exact HQ.out
                · exact D2.out i (by omega) d hd⟩
              case measure => simp [intOf]; omega
            · have d4 : decide ((20 : Int) < (x.auxs.length : Int)) = true := by simp; omega
              clear q1 q2 q3 q4
              go_wp2; go_ret; exact FitB.no T5.out.fr
          · have d3 : decide ((20 : Int) < (x.rels.length : Int)) = true := by simp; omega
            clear q1 q2 q3
            go_wp2; go_ret; exact FitB.no T5.out.fr
        · have d2 : decide ((200 : Int) < (x.data.size : Int)) = true := by simp; omega
          clear q1 q2
          go_wp2; go_ret; exact FitB.no T5.out.fr
      · have d1 : decide ((100 : Int) < (x.name.size : Int)) = true := by simp; omega
        clear q1
        go_wp2; go_ret; exact FitB.no T5.out.fr
    · have e : k = nd := by omega
      subst e
      have HD1 : Hid (∀ d ∈ defs F, dOk d) := Lib.hid (fun d hd => by
        obtain ⟨j, hj⟩ := List.mem_iff_getElem?.1 hd
        exact D2.out j (by rw [HND.out]; exact (List.getElem?_eq_some_iff.1 hj).1) d hj)
      clear D2 F2 T1 HAV HEV
      have T27 := Lib.hid T2.out
      clear T2
      have fc := T27.out.cell 16 _ HC.out.e7
      go_wp2_with fail
      clear fc
      go_loopw [49] (fun c0 y => ∃ k : Nat, k ≤ F.refs.length ∧ c0 = .int .i64 k ∧ Box F w gA cs (.slice A0 F.imports.length k0) (.slice A1 F.packages.length k1) (.slice A2 F.files.length k2) v3 (.slice A4 F.short.length k4) (.slice A5 F.hashed.length k5) v6 (.slice A7 F.refs.length k7) (.slice A8 F.refFlags.length k8) (.slice A9 F.hashes64.length k9) (.slice A10 F.hashes.length k10) (.slice A11 F.refNames.length k11) y ∧ ∀ i < k, ∀ d, F.refs[i]? = some d → d.name.size ≤ 100) (fun c _ => F.refs.length - (intOf c).toNat)
      case atStart => exact ⟨0, Nat.zero_le _, rfl, T27.out, fun i hi => by omega⟩
      case round =>
        obtain ⟨k, hk, rfl, ht, hd⟩ := hrel
        have TT := Lib.hid ht; have DD := Lib.hid hd
        clear ht hd
        by_cases hlt : k < F.refs.length
        · obtain ⟨x, hx⟩ : ∃ x, F.refs[k]? = some x := ⟨_, List.getElem?_eq_getElem hlt⟩
          have hne : F.refs ≠ [] := by intro e; rw [e] at hx; simp at hx
          obtain rfl := G7.out hne
          obtain ⟨cx, hR, hl, hcx⟩ := R7.out k x hx
          have h0k : (0 : Int) ≤ (k : Int) := by omega
          have hkl : (k : Int) < (F.refs.length : Int) := by omega
          have HX := Lib.hid hx; have HCX := Lib.hid (TT.out.fr.cs (by simp) hcx); have HL := Lib.hid hl; have HONE := Lib.hid (rfd_one hR)
          have EE0 : Hid (cx[0]? = some (.string x.name)) := Lib.hid (by rw [hR.2]; rfl)
          clear hx hne hR hl hcx
          go_wp2_with (first | ((with_reducible refine selD 52 ?_); go_must (refine wpList_load_cs _ rfl 53 _ rfl b7 (o7 + k * 7) cx rfl (Tryz.isAgg53 _) (by rw [HL.out]; exact Tryz.sizeOf53 _) HCX.out ?_)) | ((with_reducible refine selS 53 ?_); go_must (refine wpList_store_all _ rfl 53 _ _ rfl _ 53 _ cx rfl rfl (by rw [HL.out]; exact Tryz.sizeOf53 _) (Blk.new _ 53 _) (by rw [HL.out]; rfl) HONE.out ?_; intro w5 hb5 hf5; refine Hid.out ?_)))
          refine Lib.hid ?_
          have f5 : Fr [] wr w5 := ((Fr.refl [] wr).alloc _ |>.mono (S' := [wr.heap.size]) (by simp)).trans hf5 |>.mono (S' := []) (by simp)
          have c0 : w5.cell? ⟨wr.heap.size, 0, none⟩ = some (.string x.name) := by rw [hb5.cell]; simpa using EE0.out
          have T5 := Lib.hid (TT.out.fr0 f5)
          clear hb5 hf5 f5 TT HCX
          generalize wr.heap.size = sb at c0 ⊢
          by_cases q1 : x.name.size ≤ 100
          · have HQ := Lib.hid q1
            go_wp2_with fail
            go_roundw
            case rel => exact ⟨k + 1, by omega, by go_num, T5.out, fun i hi d hd => by
              by_cases e : i = k
              · subst e; rw [HX.out] at hd; injection hd with hd; rw [← hd]; exact HQ.out
              · exact DD.out i (by omega) d hd⟩
            case measure => simp [intOf]; omega
          · go_wp2; go_ret; exact FitB.no T5.out.fr
        · have e : k = F.refs.length := by omega
          subst e
          have HD2 : Hid (∀ d ∈ F.refs, d.name.size ≤ 100) := Lib.hid (fun d hd => by
            obtain ⟨j, hj⟩ := List.mem_iff_getElem?.1 hd
            exact DD.out j (List.getElem?_eq_some_iff.1 hj).1 d hj)
          have TE7 := Lib.hid TT.out
          clear DD TT T27
          have T31 := Lib.hid TE7.out
          clear TE7
          have fc := T31.out.cell 20 _ HC.out.e11
          go_wp2_with fail
          clear fc
          go_loopw [61] (fun c0 y => ∃ k : Nat, k ≤ F.refNames.length ∧ c0 = .int .i64 k ∧ Box F w gA cs (.slice A0 F.imports.length k0) (.slice A1 F.packages.length k1) (.slice A2 F.files.length k2) v3 (.slice A4 F.short.length k4) (.slice A5 F.hashed.length k5) v6 (.slice A7 F.refs.length k7) (.slice A8 F.refFlags.length k8) (.slice A9 F.hashes64.length k9) (.slice A10 F.hashes.length k10) (.slice A11 F.refNames.length k11) y ∧ ∀ i < k, ∀ d, F.refNames[i]? = some d → d.name.size ≤ 100) (fun c _ => F.refNames.length - (intOf c).toNat)
          case atStart => exact ⟨0, Nat.zero_le _, rfl, T31.out, fun i hi => by omega⟩
          case round =>
            obtain ⟨k, hk, rfl, ht, hd⟩ := hrel
            have TT := Lib.hid ht; have DD := Lib.hid hd
            clear ht hd
            by_cases hlt : k < F.refNames.length
            · obtain ⟨x, hx⟩ : ∃ x, F.refNames[k]? = some x := ⟨_, List.getElem?_eq_getElem hlt⟩
              have hne : F.refNames ≠ [] := by intro e; rw [e] at hx; simp at hx
              obtain rfl := G11.out hne
              obtain ⟨cx, hR, hl, hcx⟩ := R11.out k x hx
              have h0k : (0 : Int) ≤ (k : Int) := by omega
              have hkl : (k : Int) < (F.refNames.length : Int) := by omega
              have HX := Lib.hid hx; have HCX := Lib.hid (TT.out.fr.cs (by simp) hcx); have HL := Lib.hid hl; have HONE := Lib.hid (nam_one hR)
              have EE0 : Hid (cx[2]? = some (.string x.name)) := Lib.hid (by rw [hR.2]; rfl)
              clear hx hne hR hl hcx
              go_wp2_with (first | ((with_reducible refine selD 64 ?_); go_must (refine wpList_load_cs _ rfl 57 _ rfl b11 (o11 + k * 3) cx rfl (Tryz.isAgg57 _) (by rw [HL.out]; exact Tryz.sizeOf57 _) HCX.out ?_)) | ((with_reducible refine selS 57 ?_); go_must (refine wpList_store_all _ rfl 57 _ _ rfl _ 57 _ cx rfl rfl (by rw [HL.out]; exact Tryz.sizeOf57 _) (Blk.new _ 57 _) (by rw [HL.out]; rfl) HONE.out ?_; intro w5 hb5 hf5; refine Hid.out ?_)))
              refine Lib.hid ?_
              have f5 : Fr [] wr w5 := ((Fr.refl [] wr).alloc _ |>.mono (S' := [wr.heap.size]) (by simp)).trans hf5 |>.mono (S' := []) (by simp)
              have c0 : w5.cell? ⟨wr.heap.size, 2, none⟩ = some (.string x.name) := by rw [hb5.cell]; simpa using EE0.out
              have T5 := Lib.hid (TT.out.fr0 f5)
              clear hb5 hf5 f5 TT HCX
              generalize wr.heap.size = sb at c0 ⊢
              by_cases q1 : x.name.size ≤ 100
              · have HQ := Lib.hid q1
                go_wp2_with fail
                go_roundw
                case rel => exact ⟨k + 1, by omega, by go_num, T5.out, fun i hi d hd => by
                  by_cases e : i = k
                  · subst e; rw [HX.out] at hd; injection hd with hd; rw [← hd]; exact HQ.out
                  · exact DD.out i (by omega) d hd⟩
                case measure => simp [intOf]; omega
              · go_wp2; go_ret; exact FitB.no T5.out.fr
            · have e : k = F.refNames.length := by omega
              subst e
              have HD3 : Hid (∀ d ∈ F.refNames, d.name.size ≤ 100) := Lib.hid (fun d hd => by
                obtain ⟨j, hj⟩ := List.mem_iff_getElem?.1 hd
                exact DD.out j (List.getElem?_eq_some_iff.1 hj).1 d hj)
              have TE11 := Lib.hid TT.out
              clear DD TT T31
              have T20 := Lib.hid TE11.out
              clear TE11
              have fc := T20.out.cell 9 _ HC.out.e0
              go_wp2_with fail
              clear fc
              go_loopw [73] (fun c0 y => ∃ k : Nat, k ≤ F.imports.length ∧ c0 = .int .i64 k ∧ Box F w gA cs (.slice A0 F.imports.length k0) (.slice A1 F.packages.length k1) (.slice A2 F.files.length k2) v3 (.slice A4 F.short.length k4) (.slice A5 F.hashed.length k5) v6 (.slice A7 F.refs.length k7) (.slice A8 F.refFlags.length k8) (.slice A9 F.hashes64.length k9) (.slice A10 F.hashes.length k10) (.slice A11 F.refNames.length k11) y ∧ ∀ i < k, ∀ d, F.imports[i]? = some d → d.pkg.size ≤ 100) (fun c _ => F.imports.length - (intOf c).toNat)
              case atStart => exact ⟨0, Nat.zero_le _, rfl, T20.out, fun i hi => by omega⟩
              case round =>
                obtain ⟨k, hk, rfl, ht, hd⟩ := hrel
                have TT := Lib.hid ht; have DD := Lib.hid hd
                clear ht hd
                by_cases hlt : k < F.imports.length
                · obtain ⟨x, hx⟩ : ∃ x, F.imports[k]? = some x := ⟨_, List.getElem?_eq_getElem hlt⟩
                  have hne : F.imports ≠ [] := by intro e; rw [e] at hx; simp at hx
                  obtain rfl := G0.out hne
                  obtain ⟨cx, hR, hl, hcx⟩ := R0.out k x hx
                  have h0k : (0 : Int) ≤ (k : Int) := by omega
                  have hkl : (k : Int) < (F.imports.length : Int) := by omega
                  have HX := Lib.hid hx; have HCX := Lib.hid (TT.out.fr.cs (by simp) hcx); have HL := Lib.hid hl; have HONE := Lib.hid (imp_one hR)
                  have EE0 : Hid (cx[0]? = some (.string x.pkg)) := Lib.hid (by rw [hR.2]; rfl)
                  clear hx hne hR hl hcx
                  go_wp2_with (first | ((with_reducible refine selD 76 ?_); go_must (refine wpList_load_cs _ rfl 59 _ rfl b0 (o0 + k * 9) cx rfl (Tryz.isAgg59 _) (by rw [HL.out]; exact Tryz.sizeOf59 _) HCX.out ?_)) | ((with_reducible refine selS 59 ?_); go_must (refine wpList_store_all _ rfl 59 _ _ rfl _ 59 _ cx rfl rfl (by rw [HL.out]; exact Tryz.sizeOf59 _) (Blk.new _ 59 _) (by rw [HL.out]; rfl) HONE.out ?_; intro w5 hb5 hf5; refine Hid.out ?_)))
                  refine Lib.hid ?_
                  have f5 : Fr [] wr w5 := ((Fr.refl [] wr).alloc _ |>.mono (S' := [wr.heap.size]) (by simp)).trans hf5 |>.mono (S' := []) (by simp)
                  have c0 : w5.cell? ⟨wr.heap.size, 0, none⟩ = some (.string x.pkg) := by rw [hb5.cell]; simpa using EE0.out
                  have T5 := Lib.hid (TT.out.fr0 f5)
                  clear hb5 hf5 f5 TT HCX
                  generalize wr.heap.size = sb at c0 ⊢
                  by_cases q1 : x.pkg.size ≤ 100
                  · have HQ := Lib.hid q1
                    go_wp2_with fail
                    go_roundw
                    case rel => exact ⟨k + 1, by omega, by go_num, T5.out, fun i hi d hd => by
                      by_cases e : i = k
                      · subst e; rw [HX.out] at hd; injection hd with hd; rw [← hd]; exact HQ.out
                      · exact DD.out i (by omega) d hd⟩
                    case measure => simp [intOf]; omega
                  · go_wp2; go_ret; exact FitB.no T5.out.fr
                · have e : k = F.imports.length := by omega
                  subst e
                  have HD4 : Hid (∀ d ∈ F.imports, d.pkg.size ≤ 100) := Lib.hid (fun d hd => by
                    obtain ⟨j, hj⟩ := List.mem_iff_getElem?.1 hd
                    exact DD.out j (List.getElem?_eq_some_iff.1 hj).1 d hj)
                  have TE0 := Lib.hid TT.out
                  clear DD TT T20
                  have fc9 := TE0.out.cell 10 _ HC.out.e1; have fc10 := TE0.out.cell 11 _ HC.out.e2
                  go_wp2_with fail
                  clear fc9 fc10
                  have TP := Lib.hid TE0.out
                  clear TE0
                  have hq : ∀ (k : Nat) (ls : List ByteArray), [F.packages, F.files][k]? = some ls → ls.length ≤ 9223372036854775807 ∧ ∃ (b o c : Nat) (A : Option Addr), [Value.slice A1 F.packages.length k1, Value.slice A2 F.files.length k2][k]? = some (.slice A ls.length c) ∧ (ls ≠ [] → A = some ⟨b, o, none⟩) ∧ ∀ (i : Nat) (x : ByteArray), ls[i]? = some x → Cs w b (o + i) [.string x] := by
                    intro k ls hls
                    match k, hls with
                    | 0, hls => cases hls; exact ⟨hb1, b1, o1, k1, A1, rfl, G1.out, fun i x hx => by obtain ⟨c', h1, _, h2⟩ := R1.out i x hx; rw [Nat.mul_one] at h2; rw [← (h1 : c' = _)]; exact h2⟩
                    | 1, hls => cases hls; exact ⟨hb2, b2, o2, k2, A2, rfl, G2.out, fun i x hx => by obtain ⟨c', h1, _, h2⟩ := R2.out i x hx; rw [Nat.mul_one] at h2; rw [← (h1 : c' = _)]; exact h2⟩
                    | n + 2, hls => simp at hls
                  have HQ2 := Lib.hid hq
                  clear hq
                  go_loopg [87] 2 (fun g0 c0 y => ∃ k : Nat, k ≤ 2 ∧ g0 = 2 - k ∧ c0 = .int .i64 k ∧ Box F w gA cs (.slice A0 F.imports.length k0) (.slice A1 F.packages.length k1) (.slice A2 F.files.length k2) v3 (.slice A4 F.short.length k4) (.slice A5 F.hashed.length k5) v6 (.slice A7 F.refs.length k7) (.slice A8 F.refFlags.length k8) (.slice A9 F.hashes64.length k9) (.slice A10 F.hashes.length k10) (.slice A11 F.refNames.length k11) y ∧ ∀ j < k, ∀ ls, [F.packages, F.files][j]? = some ls → ∀ s ∈ ls, s.size ≤ 100)
                  case atStart => exact ⟨0, by omega, rfl, rfl, TP.out, fun j hj => by omega⟩
                  case round =>
                    obtain ⟨k, hk, rfl, rfl, ht, hd⟩ := hrel
                    obtain ⟨xk, hxk⟩ : ∃ xk, xk = wr := ⟨_, rfl⟩
                    subst hxk
                    have TT := Lib.hid ht; have DD := Lib.hid hd
                    clear ht hd TP
                    by_cases hlt : k < 2
                    · obtain ⟨ls, hls⟩ : ∃ ls, [F.packages, F.files][k]? = some ls := ⟨_, List.getElem?_eq_getElem (by simpa using hlt)⟩
                      obtain ⟨hlb, b, o, c, A, hu, hA, hE⟩ := HQ2.out k ls hls
                      have hix : ∀ z, (Instr.index 60 (.agg #[Value.slice A1 F.packages.length k1, Value.slice A2 F.files.length k2]) (.int .i64 k)).run Tryz.prog z = .ok (.slice A ls.length c) z := fun z => run_index_arr (t := 60) (e := 25) (n := 2) (by kernel_rfl) (fun _ => by kernel_rfl) (fun _ => by kernel_rfl) _ k hlt _ (by simpa using hu) z
                      have HLS := Lib.hid hls; have HA := Lib.hid hA; have HE := Lib.hid hE
                      clear hls hu hA hE
                      go_wp2_with fail
                      try rw [show decide ((k : Int) < 2) = true from by simp; omega]
                      clear hix
                      go_loopw [92] (fun c0 y => ∃ j : Nat, j ≤ ls.length ∧ c0 = .int .i64 j ∧ Box F w gA cs (.slice A0 F.imports.length k0) (.slice A1 F.packages.length k1) (.slice A2 F.files.length k2) v3 (.slice A4 F.short.length k4) (.slice A5 F.hashed.length k5) v6 (.slice A7 F.refs.length k7) (.slice A8 F.refFlags.length k8) (.slice A9 F.hashes64.length k9) (.slice A10 F.hashes.length k10) (.slice A11 F.refNames.length k11) y ∧ ∀ i < j, ∀ s, ls[i]? = some s → s.size ≤ 100) (fun c _ => ls.length - (intOf c).toNat)
                      case atStart => exact ⟨0, Nat.zero_le _, rfl, TT.out, fun i hi => by omega⟩
                      case round =>
                        obtain ⟨j, hj, rfl, ht, hd⟩ := hrel
                        have TJ := Lib.hid ht; have DJ := Lib.hid hd
                        clear ht hd
                        by_cases hlj : j < ls.length
                        · obtain ⟨x, hx⟩ : ∃ x, ls[j]? = some x := ⟨_, List.getElem?_eq_getElem hlj⟩
                          have hne : ls ≠ [] := by intro e; rw [e] at hx; simp at hx
                          obtain rfl := HA.out hne
                          have c0 := (TJ.out.fr.cs (by simp) (HE.out j x hx)).at0
                          have h0j : (0 : Int) ≤ (j : Int) := by omega
                          have hjl : (j : Int) < (ls.length : Int) := by omega
                          have HX := Lib.hid hx
                          clear hx hne
                          by_cases q1 : x.size ≤ 100
                          · have HQ := Lib.hid q1
                            go_wp2_with fail
                            go_roundw
                            case rel => exact ⟨j + 1, by omega, by go_num, TJ.out, fun i hi d hd => by
                              by_cases e : i = j
                              · subst e; rw [HX.out] at hd; injection hd with hd; rw [← hd]; exact HQ.out
                              · exact DJ.out i (by omega) d hd⟩
                            case measure => simp [intOf]; omega
                          · go_wp2; go_ret; exact FitB.no TJ.out.fr
                        · have e : j = ls.length := by omega
                          subst e
                          have HN : Hid (∀ j < k + 1, ∀ l2, [F.packages, F.files][j]? = some l2 → ∀ s ∈ l2, s.size ≤ 100) := Lib.hid (fun j hj l2 hl2 s hs => by
                            by_cases e : j = k
                            · subst e
                              rw [HLS.out] at hl2; injection hl2 with hl2; subst hl2
                              obtain ⟨i, hi⟩ := List.mem_iff_getElem?.1 hs
                              exact DJ.out i (List.getElem?_eq_some_iff.1 hi).1 s hi
                            · exact DD.out j (by omega) l2 hl2 s hs)
                          go_wp2
                          go_roundg (2 - (k + 1))
                          case rel => exact ⟨k + 1, by omega, rfl, by go_num, TJ.out, HN.out⟩
                          case measure => omega
                    · have e : k = 2 := by omega
                      subst e
                      have HD5 : Hid (∀ s ∈ F.packages, s.size ≤ 100) := Lib.hid (DD.out 0 (by omega) _ rfl)
                      have HD6 : Hid (∀ s ∈ F.files, s.size ≤ 100) := Lib.hid (DD.out 1 (by omega) _ rfl)
                      have ha := TT.out.a.all
                      simp only [List.toList_toArray] at ha
                      have HALL := Lib.hid ha
                      clear DD HQ2 ha
                      go_wp2_with fail
                      refine wp_region_plan 22 [(0, true), (3, true), (4, true), (5, true), (6, true), (7, true), (8, true), (9, true), (10, true), (11, true), (12, true), (13, true), (14, true), (15, true), (16, true), (17, true), (18, true), (19, true), (20, true), (1, false), (2, true), (21, true)] (fun z => Fr [] xk z) (by kernel_rfl) (by kernel_rfl) (Fr.refl [] xk).drew ?_
                      refine plan_load 33 _ gA 0 cs (by rfl) rfl rfl rfl (fun _ => by kernel_rfl) (by intro z; rw [HC.out.len]; exact Tryz.sizeOf33 z) (fun z hz => hz.cs (by simp) HALL.out) ?_
                      simp only [Act.put, List.setIfInBounds_toArray, List.set_cons_zero, List.set_cons_succ]
                      refine plan_q (.pointer (some ⟨gA, 16, none⟩)) (by rfl) rfl (by intro z _; go_simp) ?_
                      simp only [Act.put, List.setIfInBounds_toArray, List.set_cons_zero, List.set_cons_succ]
                      refine plan_cell 27 _ ⟨gA, 16, none⟩ (.slice A7 F.refs.length k7) (by rfl) rfl rfl rfl (fun _ => by kernel_rfl) (fun z hz => hz.cell (by simp) (TT.out.cell 16 _ HC.out.e7)) ?_
                      simp only [Act.put, List.setIfInBounds_toArray, List.set_cons_zero, List.set_cons_succ]
                      refine plan_len 27 53 _ A7 F.refs.length k7 Tryz.underlying27 (by rfl) rfl rfl rfl ?_
                      simp only [Act.put, List.setIfInBounds_toArray, List.set_cons_zero, List.set_cons_succ]
                      refine plan_q (.pointer (some ⟨gA, 17, none⟩)) (by rfl) rfl (by intro z _; go_simp) ?_
                      simp only [Act.put, List.setIfInBounds_toArray, List.set_cons_zero, List.set_cons_succ]
                      refine plan_cell 28 _ ⟨gA, 17, none⟩ (.slice A8 F.refFlags.length k8) (by rfl) rfl rfl rfl (fun _ => by kernel_rfl) (fun z hz => hz.cell (by simp) (TT.out.cell 17 _ HC.out.e8)) ?_
                      simp only [Act.put, List.setIfInBounds_toArray, List.set_cons_zero, List.set_cons_succ]
                      refine plan_len 28 92 _ A8 F.refFlags.length k8 Tryz.underlying28 (by rfl) rfl rfl rfl ?_
                      simp only [Act.put, List.setIfInBounds_toArray, List.set_cons_zero, List.set_cons_succ]
                      refine plan_q (.pointer (some ⟨gA, 20, none⟩)) (by rfl) rfl (by intro z _; go_simp) ?_
                      simp only [Act.put, List.setIfInBounds_toArray, List.set_cons_zero, List.set_cons_succ]
                      refine plan_cell 31 _ ⟨gA, 20, none⟩ (.slice A11 F.refNames.length k11) (by rfl) rfl rfl rfl (fun _ => by kernel_rfl) (fun z hz => hz.cell (by simp) (TT.out.cell 20 _ HC.out.e11)) ?_
                      simp only [Act.put, List.setIfInBounds_toArray, List.set_cons_zero, List.set_cons_succ]
                      refine plan_len 31 57 _ A11 F.refNames.length k11 Tryz.underlying31 (by rfl) rfl rfl rfl ?_
                      simp only [Act.put, List.setIfInBounds_toArray, List.set_cons_zero, List.set_cons_succ]
                      refine plan_q (.pointer (some ⟨gA, 9, none⟩)) (by rfl) rfl (by intro z _; go_simp) ?_
                      simp only [Act.put, List.setIfInBounds_toArray, List.set_cons_zero, List.set_cons_succ]
                      refine plan_cell 24 _ ⟨gA, 9, none⟩ (.slice A0 F.imports.length k0) (by rfl) rfl rfl rfl (fun _ => by kernel_rfl) (fun z hz => hz.cell (by simp) (TT.out.cell 9 _ HC.out.e0)) ?_
                      simp only [Act.put, List.setIfInBounds_toArray, List.set_cons_zero, List.set_cons_succ]
                      refine plan_len 24 59 _ A0 F.imports.length k0 Tryz.underlying24 (by rfl) rfl rfl rfl ?_
                      simp only [Act.put, List.setIfInBounds_toArray, List.set_cons_zero, List.set_cons_succ]
                      refine plan_q (.pointer (some ⟨gA, 10, none⟩)) (by rfl) rfl (by intro z _; go_simp) ?_
                      simp only [Act.put, List.setIfInBounds_toArray, List.set_cons_zero, List.set_cons_succ]
                      refine plan_cell 25 _ ⟨gA, 10, none⟩ (.slice A1 F.packages.length k1) (by rfl) rfl rfl rfl (fun _ => by kernel_rfl) (fun z hz => hz.cell (by simp) (TT.out.cell 10 _ HC.out.e1)) ?_
                      simp only [Act.put, List.setIfInBounds_toArray, List.set_cons_zero, List.set_cons_succ]
                      refine plan_len 25 9 _ A1 F.packages.length k1 Tryz.underlying25 (by rfl) rfl rfl rfl ?_
                      simp only [Act.put, List.setIfInBounds_toArray, List.set_cons_zero, List.set_cons_succ]
                      refine plan_q (.pointer (some ⟨gA, 11, none⟩)) (by rfl) rfl (by intro z _; go_simp) ?_
                      simp only [Act.put, List.setIfInBounds_toArray, List.set_cons_zero, List.set_cons_succ]
                      refine plan_cell 25 _ ⟨gA, 11, none⟩ (.slice A2 F.files.length k2) (by rfl) rfl rfl rfl (fun _ => by kernel_rfl) (fun z hz => hz.cell (by simp) (TT.out.cell 11 _ HC.out.e2)) ?_
                      simp only [Act.put, List.setIfInBounds_toArray, List.set_cons_zero, List.set_cons_succ]
                      refine plan_len 25 9 _ A2 F.files.length k2 Tryz.underlying25 (by rfl) rfl rfl rfl ?_
                      simp only [Act.put, List.setIfInBounds_toArray, List.set_cons_zero, List.set_cons_succ]
                      refine plan_l (by rfl) ?_ rfl
                      refine step_call1 rfl 14 _ _ rfl (.agg cs.toArray) rfl (by kernel_rfl) (all_any F (.agg cs.toArray) xk.drew HSh.out (HFR.out.old TT.out.fr.drew.below)) ?_
                      rintro e z9 ⟨V9, rfl, hV9, f9⟩
                      obtain ⟨A9', c9', rfl, -⟩ := hV9
                      refine ⟨_, rfl, (Fr.refl [] xk).drew.trans f9, ?_⟩
                      have T9 := Lib.hid (TT.out.fr0 ((Fr.refl [] xk).drew.trans f9))
                      clear f9 TT
                      simp only [Act.put, List.setIfInBounds_toArray, List.set_cons_zero, List.set_cons_succ]
                      refine plan_len 26 51 _ A9' (defs F).length c9' Tryz.underlying26 (by rfl) rfl rfl rfl ?_
                      simp only [Act.put, List.setIfInBounds_toArray, List.set_cons_zero, List.set_cons_succ]
                      refine plan_max7 _ _ _ _ _ _ _ _ _ _ _ _ _ _ _ (by rfl) rfl rfl rfl rfl rfl rfl rfl rfl rfl ?_
                      simp only [Act.put, List.setIfInBounds_toArray, List.set_cons_zero, List.set_cons_succ]
                      refine plan_nil ?_
                      obtain ⟨mm, hmm⟩ : ∃ mm, mm = mx7 ((defs F).length : Nat) (F.refs.length : Nat) (F.refFlags.length : Nat) (F.refNames.length : Nat) (F.imports.length : Nat) (F.packages.length : Nat) (F.files.length : Nat) := ⟨_, rfl⟩
                      rw [← hmm]
                      refine tail_op (.int .i64 mm) rfl (by go_simp) ?_
                      simp only [Act.put, List.setIfInBounds_toArray, List.set_cons_zero, List.set_cons_succ]
                      have HMM := Lib.hid hmm
                      clear hmm
                      have g18 := T9.out.cell 18 _ HC.out.e9; have g19 := T9.out.cell 19 _ HC.out.e10; have g13 := T9.out.cell 13 _ HC.out.e4; have g14 := T9.out.cell 14 _ HC.out.e5
                      by_cases q1 : mm ≤ 60
                      · have d1 : decide (mm ≤ 60) = true := by simpa using q1
                        by_cases q2 : F.hashes64.length = F.short.length
                        · by_cases q3 : F.hashes.length = F.hashed.length
                          · have HSM : Hid (Small F) := Lib.hid (by
                              have h7 := mx7_le (by rw [← HMM.out]; exact q1 : mx7 ((defs F).length : Nat) (F.refs.length : Nat) (F.refFlags.length : Nat) (F.refNames.length : Nat) (F.imports.length : Nat) (F.packages.length : Nat) (F.files.length : Nat) ≤ 60)
                              have hdl : (defs F).length ≤ 60 := by omega
                              exact ⟨HD1.out, HD2.out, HD3.out, HD4.out, HD5.out, HD6.out, hdl, by omega, by omega, by omega, by omega, by omega, by omega, q2, q3⟩)
                            rw [q2] at g18; rw [q3] at g19
                            clear q1 q2 q3
                            go_wp2_with fail
                            go_ret; exact FitB.yes HSM.out T9.out.fr _
                          · have Q3 := Lib.hid q3
                            clear q3
                            go_wp2_with fail
                            go_ret; exact FitB.val ((F.hashes.length : Int) == (F.hashed.length : Int)) (fun hb => absurd (Int.ofNat.inj (by simpa using hb)) Q3.out) T9.out.fr
                        · go_wp2_with fail
                          go_ret; exact FitB.no T9.out.fr
                      · have d1 : decide (mm ≤ 60) = false := by simpa using q1
                        go_wp2_with fail
                        go_ret; exact FitB.no T9.out.fr

end Go.Proofs.YtnhafphgkipldaaGreatDoor
