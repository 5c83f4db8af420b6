/- spec.same on two slices that read as one list: true. Conditions: the list has at most 1000 elements. -/
import Derived.Test.YtnhafphgkipldaaGreatDoorEqs
namespace Go.Proofs.YtnhafphgkipldaaGreatDoor
open Go Go.RowKit

set_option maxHeartbeats 1600000 in
set_option maxRecDepth 100000 in
theorem same34_any (l : List Imp) (v v' : Value) (w : World) (hn : l.length ≤ 1000) (h : Sl 9 ImpR w v l) (h' : Sl 9 ImpR w v' l) : Calls Tryz.prog 34 #[v, v'] w fun e w' => e = .returned (.bool true) ∧ Fr [] w w' := by
  obtain ⟨b, off, c, A, rfl, hA, hE⟩ := h.elim
  obtain ⟨b', off', c', A', rfl, hA', hE'⟩ := h'.elim
  have HA := Lib.hid hA; have HE := Lib.hid hE; have HA' := Lib.hid hA'; have HE' := Lib.hid hE'
  clear hA hE hA' hE' h h'
  go_enter Tryz.func34, Tryz.ntmps34
  go_wp2_with fail
  go_loopw [13] (fun c0 y => ∃ k : Nat, k ≤ l.length ∧ c0 = .int .i64 k ∧ Fr [] w y) (fun c _ => l.length - (intOf c).toNat)
  case atStart => exact ⟨0, Nat.zero_le _, rfl, Fr.refl _ _⟩
  case round =>
    obtain ⟨k, hk, rfl, hf⟩ := hrel
    have HF := Lib.hid hf
    clear hf
    by_cases hlt : k < l.length
    · obtain ⟨x, hx⟩ : ∃ x, l[k]? = some x := ⟨_, List.getElem?_eq_getElem hlt⟩
      have hne : l ≠ [] := by rintro rfl; simp at hlt
      obtain rfl := HA.out hne
      obtain rfl := HA'.out hne
      obtain ⟨cs, hR, hl, hc⟩ := HE.out k x hx
      obtain ⟨cs', hR', hl', hc'⟩ := HE'.out k x hx
      obtain rfl : cs = x.cells := hR.2
      obtain rfl : cs' = x.cells := hR'.2
      have HOK := Lib.hid hR.1
      have HL := Lib.hid hl
      have HC := Lib.hid hc; have HC' := Lib.hid hc'
      have h0k : (0 : Int) ≤ (k : Int) := by omega
      have hkl : (k : Int) < (l.length : Int) := by omega
      clear hx hne hl hl' hc hc' hR hR'
      go_wp2_with fail
      refine wp_region_plan 8 [(0, true), (1, true), (2, true), (3, true), (4, true), (5, true), (6, true), (7, true)] (fun z => Fr [] w z) (by kernel_rfl) (by kernel_rfl) HF.out.drew ?_
      refine plan_move _ (.slice (some ⟨b, off, none⟩) l.length c) (by rfl) rfl rfl rfl ?_
      refine plan_move _ (.int .i64 k) (by rfl) rfl rfl rfl ?_
      simp only [Act.put, List.setIfInBounds_toArray, List.set_cons_zero, List.set_cons_succ]
      refine plan_q (.pointer (some ⟨b, off + k * 9, none⟩)) (by rfl) rfl (by intro z _; go_simp) ?_
      simp only [Act.put, List.setIfInBounds_toArray, List.set_cons_zero, List.set_cons_succ]
      refine plan_load 59 _ b (off + k * 9) x.cells (by rfl) rfl rfl rfl (fun _ => by kernel_rfl) (by intro z; first | exact Tryz.sizeOf59 z | (rw [HL.out]; exact Tryz.sizeOf59 z)) (fun z hz => hz.cs (by simp) HC.out) ?_
      simp only [Act.put, List.setIfInBounds_toArray, List.set_cons_zero, List.set_cons_succ]
      refine plan_move _ (.slice (some ⟨b', off', none⟩) l.length c') (by rfl) rfl rfl rfl ?_
      refine plan_move _ (.int .i64 k) (by rfl) rfl rfl rfl ?_
      simp only [Act.put, List.setIfInBounds_toArray, List.set_cons_zero, List.set_cons_succ]
      refine plan_q (.pointer (some ⟨b', off' + k * 9, none⟩)) (by rfl) rfl (by intro z _; go_simp) ?_
      simp only [Act.put, List.setIfInBounds_toArray, List.set_cons_zero, List.set_cons_succ]
      refine plan_load 59 _ b' (off' + k * 9) x.cells (by rfl) rfl rfl rfl (fun _ => by kernel_rfl) (by intro z; first | exact Tryz.sizeOf59 z | (rw [HL.out]; exact Tryz.sizeOf59 z)) (fun z hz => hz.cs (by simp) HC'.out) ?_
      simp only [Act.put, List.setIfInBounds_toArray, List.set_cons_zero, List.set_cons_succ]
      refine plan_nil ?_
      refine tail_neq 59 _ _ _ (x.cells).toArray rfl rfl rfl rfl (self59 9997 x HOK.out) (by kernel_rfl) ?_
      simp only [Act.put, List.setIfInBounds_toArray, List.set_cons_zero, List.set_cons_succ]
      have HF2 := Lib.hid HF.out.drew
      clear HF HC HC'
      generalize wr.drew = w2 at HF2 ⊢
      go_wp2_with fail
      go_roundw
      case rel => exact ⟨k + 1, by omega, by go_num, HF2.out⟩
      case measure => simp [intOf]; omega
    · go_wp2
      go_ret
      exact ⟨rfl, HF.out⟩

set_option maxHeartbeats 1600000 in
set_option maxRecDepth 100000 in
theorem same35_any (l : List ByteArray) (v v' : Value) (w : World) (hn : l.length ≤ 1000) (h : Sl 1 StrR w v l) (h' : Sl 1 StrR w v' l) : Calls Tryz.prog 35 #[v, v'] w fun e w' => e = .returned (.bool true) ∧ Fr [] w w' := by
  obtain ⟨b, off, c, A, rfl, hA, hE⟩ := h.elim
  obtain ⟨b', off', c', A', rfl, hA', hE'⟩ := h'.elim
  have HA := Lib.hid hA; have HE := Lib.hid hE; have HA' := Lib.hid hA'; have HE' := Lib.hid hE'
  clear hA hE hA' hE' h h'
  go_enter Tryz.func35, Tryz.ntmps35
  go_wp2_with fail
  go_loopw [13] (fun c0 y => ∃ k : Nat, k ≤ l.length ∧ c0 = .int .i64 k ∧ Fr [] w y) (fun c _ => l.length - (intOf c).toNat)
  case atStart => exact ⟨0, Nat.zero_le _, rfl, Fr.refl _ _⟩
  case round =>
    obtain ⟨k, hk, rfl, hf⟩ := hrel
    have HF := Lib.hid hf
    clear hf
    by_cases hlt : k < l.length
    · obtain ⟨x, hx⟩ : ∃ x, l[k]? = some x := ⟨_, List.getElem?_eq_getElem hlt⟩
      have hne : l ≠ [] := by rintro rfl; simp at hlt
      obtain rfl := HA.out hne
      obtain rfl := HA'.out hne
      obtain ⟨cs, hR, hl, hc⟩ := HE.out k x hx
      obtain ⟨cs', hR', hl', hc'⟩ := HE'.out k x hx
      obtain rfl : cs = [.string x] := hR
      obtain rfl : cs' = [.string x] := hR'
      rw [Nat.mul_one] at hc hc'
      have HL := Lib.hid hl
      have HC := Lib.hid hc; have HC' := Lib.hid hc'
      have h0k : (0 : Int) ≤ (k : Int) := by omega
      have hkl : (k : Int) < (l.length : Int) := by omega
      clear hx hne hl hl' hc hc'
      go_wp2_with fail
      refine wp_region_plan 8 [(0, true), (1, true), (2, true), (3, true), (4, true), (5, true), (6, true), (7, true)] (fun z => Fr [] w z) (by kernel_rfl) (by kernel_rfl) HF.out.drew ?_
      refine plan_move _ (.slice (some ⟨b, off, none⟩) l.length c) (by rfl) rfl rfl rfl ?_
      refine plan_move _ (.int .i64 k) (by rfl) rfl rfl rfl ?_
      simp only [Act.put, List.setIfInBounds_toArray, List.set_cons_zero, List.set_cons_succ]
      refine plan_q (.pointer (some ⟨b, off + k, none⟩)) (by rfl) rfl (by intro z _; go_simp) ?_
      simp only [Act.put, List.setIfInBounds_toArray, List.set_cons_zero, List.set_cons_succ]
      refine plan_cell 9 _ ⟨b, off + k, none⟩ (.string x) (by rfl) rfl rfl rfl (fun _ => by kernel_rfl) (fun z hz => (hz.cs (by simp) HC.out).at0) ?_
      simp only [Act.put, List.setIfInBounds_toArray, List.set_cons_zero, List.set_cons_succ]
      refine plan_move _ (.slice (some ⟨b', off', none⟩) l.length c') (by rfl) rfl rfl rfl ?_
      refine plan_move _ (.int .i64 k) (by rfl) rfl rfl rfl ?_
      simp only [Act.put, List.setIfInBounds_toArray, List.set_cons_zero, List.set_cons_succ]
      refine plan_q (.pointer (some ⟨b', off' + k, none⟩)) (by rfl) rfl (by intro z _; go_simp) ?_
      simp only [Act.put, List.setIfInBounds_toArray, List.set_cons_zero, List.set_cons_succ]
      refine plan_cell 9 _ ⟨b', off' + k, none⟩ (.string x) (by rfl) rfl rfl rfl (fun _ => by kernel_rfl) (fun z hz => (hz.cs (by simp) HC'.out).at0) ?_
      simp only [Act.put, List.setIfInBounds_toArray, List.set_cons_zero, List.set_cons_succ]
      refine plan_nil ?_
      refine tail_op (.bool false) rfl (by go_simp) ?_
      simp only [Act.put, List.setIfInBounds_toArray, List.set_cons_zero, List.set_cons_succ]
      have HF2 := Lib.hid HF.out.drew
      clear HF HC HC'
      generalize wr.drew = w2 at HF2 ⊢
      go_wp2_with fail
      go_roundw
      case rel => exact ⟨k + 1, by omega, by go_num, HF2.out⟩
      case measure => simp [intOf]; omega
    · go_wp2
      go_ret
      exact ⟨rfl, HF.out⟩

set_option maxHeartbeats 1600000 in
set_option maxRecDepth 100000 in
theorem same36_any (l : List Rfd) (v v' : Value) (w : World) (hn : l.length ≤ 1000) (h : Sl 7 RfdR w v l) (h' : Sl 7 RfdR w v' l) : Calls Tryz.prog 36 #[v, v'] w fun e w' => e = .returned (.bool true) ∧ Fr [] w w' := by
  obtain ⟨b, off, c, A, rfl, hA, hE⟩ := h.elim
  obtain ⟨b', off', c', A', rfl, hA', hE'⟩ := h'.elim
  have HA := Lib.hid hA; have HE := Lib.hid hE; have HA' := Lib.hid hA'; have HE' := Lib.hid hE'
  clear hA hE hA' hE' h h'
  go_enter Tryz.func36, Tryz.ntmps36
  go_wp2_with fail
  go_loopw [13] (fun c0 y => ∃ k : Nat, k ≤ l.length ∧ c0 = .int .i64 k ∧ Fr [] w y) (fun c _ => l.length - (intOf c).toNat)
  case atStart => exact ⟨0, Nat.zero_le _, rfl, Fr.refl _ _⟩
  case round =>
    obtain ⟨k, hk, rfl, hf⟩ := hrel
    have HF := Lib.hid hf
    clear hf
    by_cases hlt : k < l.length
    · obtain ⟨x, hx⟩ : ∃ x, l[k]? = some x := ⟨_, List.getElem?_eq_getElem hlt⟩
      have hne : l ≠ [] := by rintro rfl; simp at hlt
      obtain rfl := HA.out hne
      obtain rfl := HA'.out hne
      obtain ⟨cs, hR, hl, hc⟩ := HE.out k x hx
      obtain ⟨cs', hR', hl', hc'⟩ := HE'.out k x hx
      obtain rfl : cs = x.cells := hR.2
      obtain rfl : cs' = x.cells := hR'.2
      have HL := Lib.hid hl
      have HC := Lib.hid hc; have HC' := Lib.hid hc'
      have h0k : (0 : Int) ≤ (k : Int) := by omega
      have hkl : (k : Int) < (l.length : Int) := by omega
      clear hx hne hl hl' hc hc' hR hR'
      go_wp2_with fail
      refine wp_region_plan 8 [(0, true), (1, true), (2, true), (3, true), (4, true), (5, true), (6, true), (7, true)] (fun z => Fr [] w z) (by kernel_rfl) (by kernel_rfl) HF.out.drew ?_
      refine plan_move _ (.slice (some ⟨b, off, none⟩) l.length c) (by rfl) rfl rfl rfl ?_
      refine plan_move _ (.int .i64 k) (by rfl) rfl rfl rfl ?_
      simp only [Act.put, List.setIfInBounds_toArray, List.set_cons_zero, List.set_cons_succ]
      refine plan_q (.pointer (some ⟨b, off + k * 7, none⟩)) (by rfl) rfl (by intro z _; go_simp) ?_
      simp only [Act.put, List.setIfInBounds_toArray, List.set_cons_zero, List.set_cons_succ]
      refine plan_load 53 _ b (off + k * 7) x.cells (by rfl) rfl rfl rfl (fun _ => by kernel_rfl) (by intro z; first | exact Tryz.sizeOf53 z | (rw [HL.out]; exact Tryz.sizeOf53 z)) (fun z hz => hz.cs (by simp) HC.out) ?_
      simp only [Act.put, List.setIfInBounds_toArray, List.set_cons_zero, List.set_cons_succ]
      refine plan_move _ (.slice (some ⟨b', off', none⟩) l.length c') (by rfl) rfl rfl rfl ?_
      refine plan_move _ (.int .i64 k) (by rfl) rfl rfl rfl ?_
      simp only [Act.put, List.setIfInBounds_toArray, List.set_cons_zero, List.set_cons_succ]
      refine plan_q (.pointer (some ⟨b', off' + k * 7, none⟩)) (by rfl) rfl (by intro z _; go_simp) ?_
      simp only [Act.put, List.setIfInBounds_toArray, List.set_cons_zero, List.set_cons_succ]
      refine plan_load 53 _ b' (off' + k * 7) x.cells (by rfl) rfl rfl rfl (fun _ => by kernel_rfl) (by intro z; first | exact Tryz.sizeOf53 z | (rw [HL.out]; exact Tryz.sizeOf53 z)) (fun z hz => hz.cs (by simp) HC'.out) ?_
      simp only [Act.put, List.setIfInBounds_toArray, List.set_cons_zero, List.set_cons_succ]
      refine plan_nil ?_
      refine tail_neq 53 _ _ _ (x.cells).toArray rfl rfl rfl rfl (self53 9997 x) (by kernel_rfl) ?_
      simp only [Act.put, List.setIfInBounds_toArray, List.set_cons_zero, List.set_cons_succ]
      have HF2 := Lib.hid HF.out.drew
      clear HF HC HC'
      generalize wr.drew = w2 at HF2 ⊢
      go_wp2_with fail
      go_roundw
      case rel => exact ⟨k + 1, by omega, by go_num, HF2.out⟩
      case measure => simp [intOf]; omega
    · go_wp2
      go_ret
      exact ⟨rfl, HF.out⟩

set_option maxHeartbeats 1600000 in
set_option maxRecDepth 100000 in
theorem same37_any (l : List Flg) (v v' : Value) (w : World) (hn : l.length ≤ 1000) (h : Sl 4 FlgR w v l) (h' : Sl 4 FlgR w v' l) : Calls Tryz.prog 37 #[v, v'] w fun e w' => e = .returned (.bool true) ∧ Fr [] w w' := by
  obtain ⟨b, off, c, A, rfl, hA, hE⟩ := h.elim
  obtain ⟨b', off', c', A', rfl, hA', hE'⟩ := h'.elim
  have HA := Lib.hid hA; have HE := Lib.hid hE; have HA' := Lib.hid hA'; have HE' := Lib.hid hE'
  clear hA hE hA' hE' h h'
  go_enter Tryz.func37, Tryz.ntmps37
  go_wp2_with fail
  go_loopw [13] (fun c0 y => ∃ k : Nat, k ≤ l.length ∧ c0 = .int .i64 k ∧ Fr [] w y) (fun c _ => l.length - (intOf c).toNat)
  case atStart => exact ⟨0, Nat.zero_le _, rfl, Fr.refl _ _⟩
  case round =>
    obtain ⟨k, hk, rfl, hf⟩ := hrel
    have HF := Lib.hid hf
    clear hf
    by_cases hlt : k < l.length
    · obtain ⟨x, hx⟩ : ∃ x, l[k]? = some x := ⟨_, List.getElem?_eq_getElem hlt⟩
      have hne : l ≠ [] := by rintro rfl; simp at hlt
      obtain rfl := HA.out hne
      obtain rfl := HA'.out hne
      obtain ⟨cs, hR, hl, hc⟩ := HE.out k x hx
      obtain ⟨cs', hR', hl', hc'⟩ := HE'.out k x hx
      obtain rfl : cs = x.cells := hR.2
      obtain rfl : cs' = x.cells := hR'.2
      have HL := Lib.hid hl
      have HC := Lib.hid hc; have HC' := Lib.hid hc'
      have h0k : (0 : Int) ≤ (k : Int) := by omega
      have hkl : (k : Int) < (l.length : Int) := by omega
      clear hx hne hl hl' hc hc' hR hR'
      go_wp2_with fail
      refine wp_region_plan 8 [(0, true), (1, true), (2, true), (3, true), (4, true), (5, true), (6, true), (7, true)] (fun z => Fr [] w z) (by kernel_rfl) (by kernel_rfl) HF.out.drew ?_
      refine plan_move _ (.slice (some ⟨b, off, none⟩) l.length c) (by rfl) rfl rfl rfl ?_
      refine plan_move _ (.int .i64 k) (by rfl) rfl rfl rfl ?_
      simp only [Act.put, List.setIfInBounds_toArray, List.set_cons_zero, List.set_cons_succ]
      refine plan_q (.pointer (some ⟨b, off + k * 4, none⟩)) (by rfl) rfl (by intro z _; go_simp) ?_
      simp only [Act.put, List.setIfInBounds_toArray, List.set_cons_zero, List.set_cons_succ]
      refine plan_load 92 _ b (off + k * 4) x.cells (by rfl) rfl rfl rfl (fun _ => by kernel_rfl) (by intro z; first | exact Tryz.sizeOf92 z | (rw [HL.out]; exact Tryz.sizeOf92 z)) (fun z hz => hz.cs (by simp) HC.out) ?_
      simp only [Act.put, List.setIfInBounds_toArray, List.set_cons_zero, List.set_cons_succ]
      refine plan_move _ (.slice (some ⟨b', off', none⟩) l.length c') (by rfl) rfl rfl rfl ?_
      refine plan_move _ (.int .i64 k) (by rfl) rfl rfl rfl ?_
      simp only [Act.put, List.setIfInBounds_toArray, List.set_cons_zero, List.set_cons_succ]
      refine plan_q (.pointer (some ⟨b', off' + k * 4, none⟩)) (by rfl) rfl (by intro z _; go_simp) ?_
      simp only [Act.put, List.setIfInBounds_toArray, List.set_cons_zero, List.set_cons_succ]
      refine plan_load 92 _ b' (off' + k * 4) x.cells (by rfl) rfl rfl rfl (fun _ => by kernel_rfl) (by intro z; first | exact Tryz.sizeOf92 z | (rw [HL.out]; exact Tryz.sizeOf92 z)) (fun z hz => hz.cs (by simp) HC'.out) ?_
      simp only [Act.put, List.setIfInBounds_toArray, List.set_cons_zero, List.set_cons_succ]
      refine plan_nil ?_
      refine tail_neq 92 _ _ _ (x.cells).toArray rfl rfl rfl rfl (self92 9997 x) (by kernel_rfl) ?_
      simp only [Act.put, List.setIfInBounds_toArray, List.set_cons_zero, List.set_cons_succ]
      have HF2 := Lib.hid HF.out.drew
      clear HF HC HC'
      generalize wr.drew = w2 at HF2 ⊢
      go_wp2_with fail
      go_roundw
      case rel => exact ⟨k + 1, by omega, by go_num, HF2.out⟩
      case measure => simp [intOf]; omega
    · go_wp2
      go_ret
      exact ⟨rfl, HF.out⟩

set_option maxHeartbeats 1600000 in
set_option maxRecDepth 100000 in
theorem same38_any (l : List Nam) (v v' : Value) (w : World) (hn : l.length ≤ 1000) (h : Sl 3 NamR w v l) (h' : Sl 3 NamR w v' l) : Calls Tryz.prog 38 #[v, v'] w fun e w' => e = .returned (.bool true) ∧ Fr [] w w' := by
  obtain ⟨b, off, c, A, rfl, hA, hE⟩ := h.elim
  obtain ⟨b', off', c', A', rfl, hA', hE'⟩ := h'.elim
  have HA := Lib.hid hA; have HE := Lib.hid hE; have HA' := Lib.hid hA'; have HE' := Lib.hid hE'
  clear hA hE hA' hE' h h'
  go_enter Tryz.func38, Tryz.ntmps38
  go_wp2_with fail
  go_loopw [13] (fun c0 y => ∃ k : Nat, k ≤ l.length ∧ c0 = .int .i64 k ∧ Fr [] w y) (fun c _ => l.length - (intOf c).toNat)
  case atStart => exact ⟨0, Nat.zero_le _, rfl, Fr.refl _ _⟩
  case round =>
    obtain ⟨k, hk, rfl, hf⟩ := hrel
    have HF := Lib.hid hf
    clear hf
    by_cases hlt : k < l.length
    · obtain ⟨x, hx⟩ : ∃ x, l[k]? = some x := ⟨_, List.getElem?_eq_getElem hlt⟩
      have hne : l ≠ [] := by rintro rfl; simp at hlt
      obtain rfl := HA.out hne
      obtain rfl := HA'.out hne
      obtain ⟨cs, hR, hl, hc⟩ := HE.out k x hx
      obtain ⟨cs', hR', hl', hc'⟩ := HE'.out k x hx
      obtain rfl : cs = x.cells := hR.2
      obtain rfl : cs' = x.cells := hR'.2
      have HL := Lib.hid hl
      have HC := Lib.hid hc; have HC' := Lib.hid hc'
      have h0k : (0 : Int) ≤ (k : Int) := by omega
      have hkl : (k : Int) < (l.length : Int) := by omega
      clear hx hne hl hl' hc hc' hR hR'
      go_wp2_with fail
      refine wp_region_plan 8 [(0, true), (1, true), (2, true), (3, true), (4, true), (5, true), (6, true), (7, true)] (fun z => Fr [] w z) (by kernel_rfl) (by kernel_rfl) HF.out.drew ?_
      refine plan_move _ (.slice (some ⟨b, off, none⟩) l.length c) (by rfl) rfl rfl rfl ?_
      refine plan_move _ (.int .i64 k) (by rfl) rfl rfl rfl ?_
      simp only [Act.put, List.setIfInBounds_toArray, List.set_cons_zero, List.set_cons_succ]
      refine plan_q (.pointer (some ⟨b, off + k * 3, none⟩)) (by rfl) rfl (by intro z _; go_simp) ?_
      simp only [Act.put, List.setIfInBounds_toArray, List.set_cons_zero, List.set_cons_succ]
      refine plan_load 57 _ b (off + k * 3) x.cells (by rfl) rfl rfl rfl (fun _ => by kernel_rfl) (by intro z; first | exact Tryz.sizeOf57 z | (rw [HL.out]; exact Tryz.sizeOf57 z)) (fun z hz => hz.cs (by simp) HC.out) ?_
      simp only [Act.put, List.setIfInBounds_toArray, List.set_cons_zero, List.set_cons_succ]
      refine plan_move _ (.slice (some ⟨b', off', none⟩) l.length c') (by rfl) rfl rfl rfl ?_
      refine plan_move _ (.int .i64 k) (by rfl) rfl rfl rfl ?_
      simp only [Act.put, List.setIfInBounds_toArray, List.set_cons_zero, List.set_cons_succ]
      refine plan_q (.pointer (some ⟨b', off' + k * 3, none⟩)) (by rfl) rfl (by intro z _; go_simp) ?_
      simp only [Act.put, List.setIfInBounds_toArray, List.set_cons_zero, List.set_cons_succ]
      refine plan_load 57 _ b' (off' + k * 3) x.cells (by rfl) rfl rfl rfl (fun _ => by kernel_rfl) (by intro z; first | exact Tryz.sizeOf57 z | (rw [HL.out]; exact Tryz.sizeOf57 z)) (fun z hz => hz.cs (by simp) HC'.out) ?_
      simp only [Act.put, List.setIfInBounds_toArray, List.set_cons_zero, List.set_cons_succ]
      refine plan_nil ?_
      refine tail_neq 57 _ _ _ (x.cells).toArray rfl rfl rfl rfl (self57 9997 x) (by kernel_rfl) ?_
      simp only [Act.put, List.setIfInBounds_toArray, List.set_cons_zero, List.set_cons_succ]
      have HF2 := Lib.hid HF.out.drew
      clear HF HC HC'
      generalize wr.drew = w2 at HF2 ⊢
      go_wp2_with fail
      go_roundw
      case rel => exact ⟨k + 1, by omega, by go_num, HF2.out⟩
      case measure => simp [intOf]; omega
    · go_wp2
      go_ret
      exact ⟨rfl, HF.out⟩

set_option maxHeartbeats 1600000 in
set_option maxRecDepth 100000 in
theorem same39_any (l : List Int) (v v' : Value) (w : World) (hn : l.length ≤ 1000) (h : Sl 1 U64R w v l) (h' : Sl 1 U64R w v' l) : Calls Tryz.prog 39 #[v, v'] w fun e w' => e = .returned (.bool true) ∧ Fr [] w w' := by
  obtain ⟨b, off, c, A, rfl, hA, hE⟩ := h.elim
  obtain ⟨b', off', c', A', rfl, hA', hE'⟩ := h'.elim
  have HA := Lib.hid hA; have HE := Lib.hid hE; have HA' := Lib.hid hA'; have HE' := Lib.hid hE'
  clear hA hE hA' hE' h h'
  go_enter Tryz.func39, Tryz.ntmps39
  go_wp2_with fail
  go_loopw [13] (fun c0 y => ∃ k : Nat, k ≤ l.length ∧ c0 = .int .i64 k ∧ Fr [] w y) (fun c _ => l.length - (intOf c).toNat)
  case atStart => exact ⟨0, Nat.zero_le _, rfl, Fr.refl _ _⟩
  case round =>
    obtain ⟨k, hk, rfl, hf⟩ := hrel
    have HF := Lib.hid hf
    clear hf
    by_cases hlt : k < l.length
    · obtain ⟨x, hx⟩ : ∃ x, l[k]? = some x := ⟨_, List.getElem?_eq_getElem hlt⟩
      have hne : l ≠ [] := by rintro rfl; simp at hlt
      obtain rfl := HA.out hne
      obtain rfl := HA'.out hne
      obtain ⟨cs, hR, hl, hc⟩ := HE.out k x hx
      obtain ⟨cs', hR', hl', hc'⟩ := HE'.out k x hx
      obtain rfl : cs = [.int .u64 x] := hR.2
      obtain rfl : cs' = [.int .u64 x] := hR'.2
      rw [Nat.mul_one] at hc hc'
      have HL := Lib.hid hl
      have HC := Lib.hid hc; have HC' := Lib.hid hc'
      have h0k : (0 : Int) ≤ (k : Int) := by omega
      have hkl : (k : Int) < (l.length : Int) := by omega
      clear hx hne hl hl' hc hc' hR hR'
      go_wp2_with fail
      refine wp_region_plan 8 [(0, true), (1, true), (2, true), (3, true), (4, true), (5, true), (6, true), (7, true)] (fun z => Fr [] w z) (by kernel_rfl) (by kernel_rfl) HF.out.drew ?_
      refine plan_move _ (.slice (some ⟨b, off, none⟩) l.length c) (by rfl) rfl rfl rfl ?_
      refine plan_move _ (.int .i64 k) (by rfl) rfl rfl rfl ?_
      simp only [Act.put, List.setIfInBounds_toArray, List.set_cons_zero, List.set_cons_succ]
      refine plan_q (.pointer (some ⟨b, off + k, none⟩)) (by rfl) rfl (by intro z _; go_simp) ?_
      simp only [Act.put, List.setIfInBounds_toArray, List.set_cons_zero, List.set_cons_succ]
      refine plan_cell 95 _ ⟨b, off + k, none⟩ (.int .u64 x) (by rfl) rfl rfl rfl (fun _ => by kernel_rfl) (fun z hz => (hz.cs (by simp) HC.out).at0) ?_
      simp only [Act.put, List.setIfInBounds_toArray, List.set_cons_zero, List.set_cons_succ]
      refine plan_move _ (.slice (some ⟨b', off', none⟩) l.length c') (by rfl) rfl rfl rfl ?_
      refine plan_move _ (.int .i64 k) (by rfl) rfl rfl rfl ?_
      simp only [Act.put, List.setIfInBounds_toArray, List.set_cons_zero, List.set_cons_succ]
      refine plan_q (.pointer (some ⟨b', off' + k, none⟩)) (by rfl) rfl (by intro z _; go_simp) ?_
      simp only [Act.put, List.setIfInBounds_toArray, List.set_cons_zero, List.set_cons_succ]
      refine plan_cell 95 _ ⟨b', off' + k, none⟩ (.int .u64 x) (by rfl) rfl rfl rfl (fun _ => by kernel_rfl) (fun z hz => (hz.cs (by simp) HC'.out).at0) ?_
      simp only [Act.put, List.setIfInBounds_toArray, List.set_cons_zero, List.set_cons_succ]
      refine plan_nil ?_
      refine tail_op (.bool false) rfl (by go_simp) ?_
      simp only [Act.put, List.setIfInBounds_toArray, List.set_cons_zero, List.set_cons_succ]
      have HF2 := Lib.hid HF.out.drew
      clear HF HC HC'
      generalize wr.drew = w2 at HF2 ⊢
      go_wp2_with fail
      go_roundw
      case rel => exact ⟨k + 1, by omega, by go_num, HF2.out⟩
      case measure => simp [intOf]; omega
    · go_wp2
      go_ret
      exact ⟨rfl, HF.out⟩

set_option maxHeartbeats 1600000 in
set_option maxRecDepth 100000 in
theorem same40_any (l : List By) (v v' : Value) (w : World) (hn : l.length ≤ 1000) (h : Sl 16 HashR w v l) (h' : Sl 16 HashR w v' l) : Calls Tryz.prog 40 #[v, v'] w fun e w' => e = .returned (.bool true) ∧ Fr [] w w' := by
  obtain ⟨b, off, c, A, rfl, hA, hE⟩ := h.elim
  obtain ⟨b', off', c', A', rfl, hA', hE'⟩ := h'.elim
  have HA := Lib.hid hA; have HE := Lib.hid hE; have HA' := Lib.hid hA'; have HE' := Lib.hid hE'
  clear hA hE hA' hE' h h'
  go_enter Tryz.func40, Tryz.ntmps40
  go_wp2_with fail
  go_loopw [13] (fun c0 y => ∃ k : Nat, k ≤ l.length ∧ c0 = .int .i64 k ∧ Fr [] w y) (fun c _ => l.length - (intOf c).toNat)
  case atStart => exact ⟨0, Nat.zero_le _, rfl, Fr.refl _ _⟩
  case round =>
    obtain ⟨k, hk, rfl, hf⟩ := hrel
    have HF := Lib.hid hf
    clear hf
    by_cases hlt : k < l.length
    · obtain ⟨x, hx⟩ : ∃ x, l[k]? = some x := ⟨_, List.getElem?_eq_getElem hlt⟩
      have hne : l ≠ [] := by rintro rfl; simp at hlt
      obtain rfl := HA.out hne
      obtain rfl := HA'.out hne
      obtain ⟨cs, hR, hl, hc⟩ := HE.out k x hx
      obtain ⟨cs', hR', hl', hc'⟩ := HE'.out k x hx
      obtain rfl : cs = (Lib.byteCells x) := hR.2
      obtain rfl : cs' = (Lib.byteCells x) := hR'.2
      have HOK := Lib.hid hR.1
      have HL := Lib.hid hl
      have HC := Lib.hid hc; have HC' := Lib.hid hc'
      have h0k : (0 : Int) ≤ (k : Int) := by omega
      have hkl : (k : Int) < (l.length : Int) := by omega
      clear hx hne hl hl' hc hc' hR hR'
      go_wp2_with fail
      refine wp_region_plan 8 [(0, true), (1, true), (2, true), (3, true), (4, true), (5, true), (6, true), (7, true)] (fun z => Fr [] w z) (by kernel_rfl) (by kernel_rfl) HF.out.drew ?_
      refine plan_move _ (.slice (some ⟨b, off, none⟩) l.length c) (by rfl) rfl rfl rfl ?_
      refine plan_move _ (.int .i64 k) (by rfl) rfl rfl rfl ?_
      simp only [Act.put, List.setIfInBounds_toArray, List.set_cons_zero, List.set_cons_succ]
      refine plan_q (.pointer (some ⟨b, off + k * 16, none⟩)) (by rfl) rfl (by intro z _; go_simp) ?_
      simp only [Act.put, List.setIfInBounds_toArray, List.set_cons_zero, List.set_cons_succ]
      refine plan_load 97 _ b (off + k * 16) (Lib.byteCells x) (by rfl) rfl rfl rfl (fun _ => by kernel_rfl) (by intro z; first | exact Tryz.sizeOf97 z | (rw [HL.out]; exact Tryz.sizeOf97 z)) (fun z hz => hz.cs (by simp) HC.out) ?_
      simp only [Act.put, List.setIfInBounds_toArray, List.set_cons_zero, List.set_cons_succ]
      refine plan_move _ (.slice (some ⟨b', off', none⟩) l.length c') (by rfl) rfl rfl rfl ?_
      refine plan_move _ (.int .i64 k) (by rfl) rfl rfl rfl ?_
      simp only [Act.put, List.setIfInBounds_toArray, List.set_cons_zero, List.set_cons_succ]
      refine plan_q (.pointer (some ⟨b', off' + k * 16, none⟩)) (by rfl) rfl (by intro z _; go_simp) ?_
      simp only [Act.put, List.setIfInBounds_toArray, List.set_cons_zero, List.set_cons_succ]
      refine plan_load 97 _ b' (off' + k * 16) (Lib.byteCells x) (by rfl) rfl rfl rfl (fun _ => by kernel_rfl) (by intro z; first | exact Tryz.sizeOf97 z | (rw [HL.out]; exact Tryz.sizeOf97 z)) (fun z hz => hz.cs (by simp) HC'.out) ?_
      simp only [Act.put, List.setIfInBounds_toArray, List.set_cons_zero, List.set_cons_succ]
      refine plan_nil ?_
      refine tail_neq 97 _ _ _ (Lib.byteCells x).toArray rfl rfl rfl rfl (self_by 9998 97 16 x (by kernel_rfl) HOK.out) (by kernel_rfl) ?_
      simp only [Act.put, List.setIfInBounds_toArray, List.set_cons_zero, List.set_cons_succ]
      have HF2 := Lib.hid HF.out.drew
      clear HF HC HC'
      generalize wr.drew = w2 at HF2 ⊢
      go_wp2_with fail
      go_roundw
      case rel => exact ⟨k + 1, by omega, by go_num, HF2.out⟩
      case measure => simp [intOf]; omega
    · go_wp2
      go_ret
      exact ⟨rfl, HF.out⟩

set_option maxHeartbeats 1600000 in
set_option maxRecDepth 100000 in
theorem same102_any (l : List Rel) (v v' : Value) (w : World) (hn : l.length ≤ 1000) (h : Sl 6 RelR w v l) (h' : Sl 6 RelR w v' l) : Calls Tryz.prog 102 #[v, v'] w fun e w' => e = .returned (.bool true) ∧ Fr [] w w' := by
  obtain ⟨b, off, c, A, rfl, hA, hE⟩ := h.elim
  obtain ⟨b', off', c', A', rfl, hA', hE'⟩ := h'.elim
  have HA := Lib.hid hA; have HE := Lib.hid hE; have HA' := Lib.hid hA'; have HE' := Lib.hid hE'
  clear hA hE hA' hE' h h'
  go_enter Tryz.func102, Tryz.ntmps102
  go_wp2_with fail
  go_loopw [13] (fun c0 y => ∃ k : Nat, k ≤ l.length ∧ c0 = .int .i64 k ∧ Fr [] w y) (fun c _ => l.length - (intOf c).toNat)
  case atStart => exact ⟨0, Nat.zero_le _, rfl, Fr.refl _ _⟩
  case round =>
    obtain ⟨k, hk, rfl, hf⟩ := hrel
    have HF := Lib.hid hf
    clear hf
    by_cases hlt : k < l.length
    · obtain ⟨x, hx⟩ : ∃ x, l[k]? = some x := ⟨_, List.getElem?_eq_getElem hlt⟩
      have hne : l ≠ [] := by rintro rfl; simp at hlt
      obtain rfl := HA.out hne
      obtain rfl := HA'.out hne
      obtain ⟨cs, hR, hl, hc⟩ := HE.out k x hx
      obtain ⟨cs', hR', hl', hc'⟩ := HE'.out k x hx
      obtain rfl : cs = x.cells := hR.2
      obtain rfl : cs' = x.cells := hR'.2
      have HL := Lib.hid hl
      have HC := Lib.hid hc; have HC' := Lib.hid hc'
      have h0k : (0 : Int) ≤ (k : Int) := by omega
      have hkl : (k : Int) < (l.length : Int) := by omega
      clear hx hne hl hl' hc hc' hR hR'
      go_wp2_with fail
      refine wp_region_plan 8 [(0, true), (1, true), (2, true), (3, true), (4, true), (5, true), (6, true), (7, true)] (fun z => Fr [] w z) (by kernel_rfl) (by kernel_rfl) HF.out.drew ?_
      refine plan_move _ (.slice (some ⟨b, off, none⟩) l.length c) (by rfl) rfl rfl rfl ?_
      refine plan_move _ (.int .i64 k) (by rfl) rfl rfl rfl ?_
      simp only [Act.put, List.setIfInBounds_toArray, List.set_cons_zero, List.set_cons_succ]
      refine plan_q (.pointer (some ⟨b, off + k * 6, none⟩)) (by rfl) rfl (by intro z _; go_simp) ?_
      simp only [Act.put, List.setIfInBounds_toArray, List.set_cons_zero, List.set_cons_succ]
      refine plan_load 157 _ b (off + k * 6) x.cells (by rfl) rfl rfl rfl (fun _ => by kernel_rfl) (by intro z; first | exact Tryz.sizeOf157 z | (rw [HL.out]; exact Tryz.sizeOf157 z)) (fun z hz => hz.cs (by simp) HC.out) ?_
      simp only [Act.put, List.setIfInBounds_toArray, List.set_cons_zero, List.set_cons_succ]
      refine plan_move _ (.slice (some ⟨b', off', none⟩) l.length c') (by rfl) rfl rfl rfl ?_
      refine plan_move _ (.int .i64 k) (by rfl) rfl rfl rfl ?_
      simp only [Act.put, List.setIfInBounds_toArray, List.set_cons_zero, List.set_cons_succ]
      refine plan_q (.pointer (some ⟨b', off' + k * 6, none⟩)) (by rfl) rfl (by intro z _; go_simp) ?_
      simp only [Act.put, List.setIfInBounds_toArray, List.set_cons_zero, List.set_cons_succ]
      refine plan_load 157 _ b' (off' + k * 6) x.cells (by rfl) rfl rfl rfl (fun _ => by kernel_rfl) (by intro z; first | exact Tryz.sizeOf157 z | (rw [HL.out]; exact Tryz.sizeOf157 z)) (fun z hz => hz.cs (by simp) HC'.out) ?_
      simp only [Act.put, List.setIfInBounds_toArray, List.set_cons_zero, List.set_cons_succ]
      refine plan_nil ?_
      refine tail_neq 157 _ _ _ (x.cells).toArray rfl rfl rfl rfl (self157 9997 x) (by kernel_rfl) ?_
      simp only [Act.put, List.setIfInBounds_toArray, List.set_cons_zero, List.set_cons_succ]
      have HF2 := Lib.hid HF.out.drew
      clear HF HC HC'
      generalize wr.drew = w2 at HF2 ⊢
      go_wp2_with fail
      go_roundw
      case rel => exact ⟨k + 1, by omega, by go_num, HF2.out⟩
      case measure => simp [intOf]; omega
    · go_wp2
      go_ret
      exact ⟨rfl, HF.out⟩

set_option maxHeartbeats 1600000 in
set_option maxRecDepth 100000 in
theorem same103_any (l : List Aux) (v v' : Value) (w : World) (hn : l.length ≤ 1000) (h : Sl 3 AuxR w v l) (h' : Sl 3 AuxR w v' l) : Calls Tryz.prog 103 #[v, v'] w fun e w' => e = .returned (.bool true) ∧ Fr [] w w' := by
  obtain ⟨b, off, c, A, rfl, hA, hE⟩ := h.elim
  obtain ⟨b', off', c', A', rfl, hA', hE'⟩ := h'.elim
  have HA := Lib.hid hA; have HE := Lib.hid hE; have HA' := Lib.hid hA'; have HE' := Lib.hid hE'
  clear hA hE hA' hE' h h'
  go_enter Tryz.func103, Tryz.ntmps103
  go_wp2_with fail
  go_loopw [13] (fun c0 y => ∃ k : Nat, k ≤ l.length ∧ c0 = .int .i64 k ∧ Fr [] w y) (fun c _ => l.length - (intOf c).toNat)
  case atStart => exact ⟨0, Nat.zero_le _, rfl, Fr.refl _ _⟩
  case round =>
    obtain ⟨k, hk, rfl, hf⟩ := hrel
    have HF := Lib.hid hf
    clear hf
    by_cases hlt : k < l.length
    · obtain ⟨x, hx⟩ : ∃ x, l[k]? = some x := ⟨_, List.getElem?_eq_getElem hlt⟩
      have hne : l ≠ [] := by rintro rfl; simp at hlt
      obtain rfl := HA.out hne
      obtain rfl := HA'.out hne
      obtain ⟨cs, hR, hl, hc⟩ := HE.out k x hx
      obtain ⟨cs', hR', hl', hc'⟩ := HE'.out k x hx
      obtain rfl : cs = x.cells := hR.2
      obtain rfl : cs' = x.cells := hR'.2
      have HL := Lib.hid hl
      have HC := Lib.hid hc; have HC' := Lib.hid hc'
      have h0k : (0 : Int) ≤ (k : Int) := by omega
      have hkl : (k : Int) < (l.length : Int) := by omega
      clear hx hne hl hl' hc hc' hR hR'
      go_wp2_with fail
      refine wp_region_plan 8 [(0, true), (1, true), (2, true), (3, true), (4, true), (5, true), (6, true), (7, true)] (fun z => Fr [] w z) (by kernel_rfl) (by kernel_rfl) HF.out.drew ?_
      refine plan_move _ (.slice (some ⟨b, off, none⟩) l.length c) (by rfl) rfl rfl rfl ?_
      refine plan_move _ (.int .i64 k) (by rfl) rfl rfl rfl ?_
      simp only [Act.put, List.setIfInBounds_toArray, List.set_cons_zero, List.set_cons_succ]
      refine plan_q (.pointer (some ⟨b, off + k * 3, none⟩)) (by rfl) rfl (by intro z _; go_simp) ?_
      simp only [Act.put, List.setIfInBounds_toArray, List.set_cons_zero, List.set_cons_succ]
      refine plan_load 165 _ b (off + k * 3) x.cells (by rfl) rfl rfl rfl (fun _ => by kernel_rfl) (by intro z; first | exact Tryz.sizeOf165 z | (rw [HL.out]; exact Tryz.sizeOf165 z)) (fun z hz => hz.cs (by simp) HC.out) ?_
      simp only [Act.put, List.setIfInBounds_toArray, List.set_cons_zero, List.set_cons_succ]
      refine plan_move _ (.slice (some ⟨b', off', none⟩) l.length c') (by rfl) rfl rfl rfl ?_
      refine plan_move _ (.int .i64 k) (by rfl) rfl rfl rfl ?_
      simp only [Act.put, List.setIfInBounds_toArray, List.set_cons_zero, List.set_cons_succ]
      refine plan_q (.pointer (some ⟨b', off' + k * 3, none⟩)) (by rfl) rfl (by intro z _; go_simp) ?_
      simp only [Act.put, List.setIfInBounds_toArray, List.set_cons_zero, List.set_cons_succ]
      refine plan_load 165 _ b' (off' + k * 3) x.cells (by rfl) rfl rfl rfl (fun _ => by kernel_rfl) (by intro z; first | exact Tryz.sizeOf165 z | (rw [HL.out]; exact Tryz.sizeOf165 z)) (fun z hz => hz.cs (by simp) HC'.out) ?_
      simp only [Act.put, List.setIfInBounds_toArray, List.set_cons_zero, List.set_cons_succ]
      refine plan_nil ?_
      refine tail_neq 165 _ _ _ (x.cells).toArray rfl rfl rfl rfl (self165 9997 x) (by kernel_rfl) ?_
      simp only [Act.put, List.setIfInBounds_toArray, List.set_cons_zero, List.set_cons_succ]
      have HF2 := Lib.hid HF.out.drew
      clear HF HC HC'
      generalize wr.drew = w2 at HF2 ⊢
      go_wp2_with fail
      go_roundw
      case rel => exact ⟨k + 1, by omega, by go_num, HF2.out⟩
      case measure => simp [intOf]; omega
    · go_wp2
      go_ret
      exact ⟨rfl, HF.out⟩

end Go.Proofs.YtnhafphgkipldaaGreatDoor
