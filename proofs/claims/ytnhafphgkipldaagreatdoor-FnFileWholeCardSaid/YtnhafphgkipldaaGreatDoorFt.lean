/- laws.zzFits*: each returns a bool, and true only where the lists are no longer than the bound. Conditions: none. -/
import Derived.Test.YtnhafphgkipldaaGreatDoorSd
namespace Go.Proofs.YtnhafphgkipldaaGreatDoor
open Go Go.RowKit

/-- A bool is returned, and true only where p. -/
def FitB (p : Prop) (w : World) (e : Ending) (w' : World) : Prop := ∃ r, e = .returned (.bool r) ∧ (r = true → p) ∧ Fr [] w w'
theorem FitB.yes {p : Prop} {w w' : World} (h : p) (f : Fr [] w w') (r : Bool) : FitB p w (.returned (.bool r)) w' := ⟨r, rfl, fun _ => h, f⟩
theorem FitB.no {p : Prop} {w w' : World} (f : Fr [] w w') : FitB p w (.returned (.bool false)) w' := ⟨false, rfl, by simp, f⟩

set_option maxHeartbeats 800000 in
theorem fits41_any (w : World) (cs : List Value) (s : ByteArray) (h : cs[0]? = some (.string s)) : Calls Tryz.prog 41 #[.agg cs.toArray] w (FitB True w) := by
  have f : Fr [] w (w.alloc (.cells cs.toArray 59)) := (Fr.refl [] w).alloc _
  have c0 : (w.alloc (.cells cs.toArray 59)).cell? ⟨w.heap.size, 0, none⟩ = some (.string s) := by rw [(Blk.new w 59 cs.toArray).cell]; simpa using h
  have HF := Lib.hid f
  clear f h
  go_enter Tryz.func41, Tryz.ntmps41
  go_wp2
  all_goals (go_ret; exact FitB.yes trivial HF.out _)
set_option maxHeartbeats 800000 in
theorem fits43_any (w : World) (cs : List Value) (s : ByteArray) (h : cs[0]? = some (.string s)) : Calls Tryz.prog 43 #[.agg cs.toArray] w (FitB True w) := by
  have f : Fr [] w (w.alloc (.cells cs.toArray 53)) := (Fr.refl [] w).alloc _
  have c0 : (w.alloc (.cells cs.toArray 53)).cell? ⟨w.heap.size, 0, none⟩ = some (.string s) := by rw [(Blk.new w 53 cs.toArray).cell]; simpa using h
  have HF := Lib.hid f
  clear f h
  go_enter Tryz.func43, Tryz.ntmps43
  go_wp2
  all_goals (go_ret; exact FitB.yes trivial HF.out _)
set_option maxHeartbeats 800000 in
theorem fits44_any (w : World) (cs : List Value) (s : ByteArray) (h : cs[2]? = some (.string s)) : Calls Tryz.prog 44 #[.agg cs.toArray] w (FitB True w) := by
  have f : Fr [] w (w.alloc (.cells cs.toArray 57)) := (Fr.refl [] w).alloc _
  have c0 : (w.alloc (.cells cs.toArray 57)).cell? ⟨w.heap.size, 2, none⟩ = some (.string s) := by rw [(Blk.new w 57 cs.toArray).cell]; simpa using h
  have HF := Lib.hid f
  clear f h
  go_enter Tryz.func44, Tryz.ntmps44
  go_wp2
  all_goals (go_ret; exact FitB.yes trivial HF.out _)
set_option maxHeartbeats 800000 in
theorem fits42_any (w : World) (cs : List Value) (s d : ByteArray) (A1 A2 : Option Addr) (n1 n2 k1 k2 : Nat) (h0 : cs[0]? = some (.string s)) (h7 : cs[7]? = some (.slice A1 n1 k1)) (h8 : cs[8]? = some (.slice A2 n2 k2)) (h9 : cs[9]? = some (.string d)) : Calls Tryz.prog 42 #[.agg cs.toArray] w (FitB True w) := by
  have f : Fr [] w (w.alloc (.cells cs.toArray 51)) := (Fr.refl [] w).alloc _
  have hc : ∀ i u, cs[i]? = some u → (w.alloc (.cells cs.toArray 51)).cell? ⟨w.heap.size, i, none⟩ = some u := fun i u hu => by rw [(Blk.new w 51 cs.toArray).cell]; simpa using hu
  have c0 := hc 0 _ h0
  have c7 := hc 7 _ h7
  have c8 := hc 8 _ h8
  have c9 := hc 9 _ h9
  have HF := Lib.hid f
  clear f h0 h7 h8 h9 hc
  go_enter Tryz.func42, Tryz.ntmps42
  go_wp2
  all_goals (go_ret; exact FitB.yes trivial HF.out _)
set_option maxHeartbeats 1600000 in
set_option maxRecDepth 100000 in
theorem fits9_any (l : List Imp) (v : Value) (w : World) (hl : l.length ≤ 9223372036854775807) (h : Sl 9 ImpR w v l) : Calls Tryz.prog 9 #[v] w (FitB (l.length ≤ 2147483647) w) := by
  obtain ⟨b, off, c, A, rfl, hA, hE⟩ := h.elim
  have HA := Lib.hid hA; have HE := Lib.hid hE
  clear hA hE h
  by_cases hbig : l.length ≤ 2147483647
  · have HBIG := Lib.hid hbig
    go_enter Tryz.func9, Tryz.ntmps9
    go_wp2_with fail
    go_loopw [10] (fun c0 y => ∃ k : Nat, k ≤ l.length ∧ c0 = .int .i64 k ∧ Fr [] w y) (fun c _ => l.length - (intOf c).toNat)
    case atStart => exact ⟨0, Nat.zero_le _, rfl, Fr.refl _ _⟩
    case round =>
      obtain ⟨k, hk, rfl, hf⟩ := hrel
      have HF := Lib.hid hf
      clear hf
      by_cases hlt : k < l.length
      · obtain ⟨x, hx⟩ : ∃ x, l[k]? = some x := ⟨_, List.getElem?_eq_getElem hlt⟩
        have hne : l ≠ [] := by rintro rfl; simp at hlt
        obtain rfl := HA.out hne
        obtain ⟨cs, hR, hlen, hc⟩ := HE.out k x hx
        have h0k : (0 : Int) ≤ (k : Int) := by omega
        have hkl : (k : Int) < (l.length : Int) := by omega
        have HC := Lib.hid (HF.out.cs (by simp) hc)
        have HR := Lib.hid hR; have HL := Lib.hid hlen
        have HONE := Lib.hid (imp_one hR)
        clear hx hne hlen hc hR
        go_wp2_with (first | ((with_reducible refine selD 13 ?_); go_must (refine wpList_load_cs _ rfl 59 _ rfl b (off + k * 9) cs rfl (Tryz.isAgg59 _) (by rw [HL.out]; exact Tryz.sizeOf59 _) HC.out ?_)) | ((with_reducible refine selS 59 ?_); go_must (refine wpList_store_all _ rfl 59 _ _ rfl _ 59 _ cs rfl rfl (by rw [HL.out]; exact Tryz.sizeOf59 _) (Blk.new _ 59 _) (by rw [HL.out]; rfl) HONE.out ?_; intro w5 hb5 hf5; refine Hid.out ?_)))
        refine Lib.hid ?_
        have f5 : Fr [] wr w5 := ((Fr.refl [] wr).alloc _ |>.mono (S' := [wr.heap.size]) (by simp)).trans hf5 |>.mono (S' := []) (by simp)
        have hb6 := hb5.all
        simp only [List.toList_toArray] at hb6
        have HB5 := Lib.hid hb6; have HF5 := Lib.hid (HF.out.trans f5)
        clear hb5 hf5 f5 HF HC hb6
        generalize wr.heap.size = sb at HB5 ⊢
        go_wp2_with ((with_reducible refine selD 14 ?_); go_must (refine wpList_load_cs _ rfl 59 _ rfl sb 0 cs rfl (Tryz.isAgg59 _) (by rw [HL.out]; exact Tryz.sizeOf59 _) HB5.out ?_))
        refine (fits41_any _ cs _ (by rw [HR.out.2]; rfl : cs[0]? = some (.string x.pkg))).mono ?_
        rintro e w6 ⟨r, rfl, -, f6⟩
        have HF6 := Lib.hid (HF5.out.trans f6)
        clear f6 HF5 HB5
        cases r
        · go_wp2
          go_ret
          exact FitB.no HF6.out
        · go_wp2
          go_roundw
          case rel => exact ⟨k + 1, by omega, by go_num, HF6.out⟩
          case measure => simp [intOf]; omega
      · go_wp2
        go_ret
        exact FitB.yes HBIG.out HF.out _
  · go_enter Tryz.func9, Tryz.ntmps9
    go_wp2
    go_ret
    exact FitB.no (Fr.refl _ _)
set_option maxHeartbeats 1600000 in
set_option maxRecDepth 100000 in
theorem fits12_any (l : List Rfd) (v : Value) (w : World) (hl : l.length ≤ 9223372036854775807) (h : Sl 7 RfdR w v l) : Calls Tryz.prog 12 #[v] w (FitB (l.length ≤ 2147483647) w) := by
  obtain ⟨b, off, c, A, rfl, hA, hE⟩ := h.elim
  have HA := Lib.hid hA; have HE := Lib.hid hE
  clear hA hE h
  by_cases hbig : l.length ≤ 2147483647
  · have HBIG := Lib.hid hbig
    go_enter Tryz.func12, Tryz.ntmps12
    go_wp2_with fail
    go_loopw [10] (fun c0 y => ∃ k : Nat, k ≤ l.length ∧ c0 = .int .i64 k ∧ Fr [] w y) (fun c _ => l.length - (intOf c).toNat)
    case atStart => exact ⟨0, Nat.zero_le _, rfl, Fr.refl _ _⟩
    case round =>
      obtain ⟨k, hk, rfl, hf⟩ := hrel
      have HF := Lib.hid hf
      clear hf
      by_cases hlt : k < l.length
      · obtain ⟨x, hx⟩ : ∃ x, l[k]? = some x := ⟨_, List.getElem?_eq_getElem hlt⟩
        have hne : l ≠ [] := by rintro rfl; simp at hlt
        obtain rfl := HA.out hne
        obtain ⟨cs, hR, hlen, hc⟩ := HE.out k x hx
        have h0k : (0 : Int) ≤ (k : Int) := by omega
        have hkl : (k : Int) < (l.length : Int) := by omega
        have HC := Lib.hid (HF.out.cs (by simp) hc)
        have HR := Lib.hid hR; have HL := Lib.hid hlen
        have HONE := Lib.hid (rfd_one hR)
        clear hx hne hlen hc hR
        go_wp2_with (first | ((with_reducible refine selD 13 ?_); go_must (refine wpList_load_cs _ rfl 53 _ rfl b (off + k * 7) cs rfl (Tryz.isAgg53 _) (by rw [HL.out]; exact Tryz.sizeOf53 _) HC.out ?_)) | ((with_reducible refine selS 53 ?_); go_must (refine wpList_store_all _ rfl 53 _ _ rfl _ 53 _ cs rfl rfl (by rw [HL.out]; exact Tryz.sizeOf53 _) (Blk.new _ 53 _) (by rw [HL.out]; rfl) HONE.out ?_; intro w5 hb5 hf5; refine Hid.out ?_)))
        refine Lib.hid ?_
        have f5 : Fr [] wr w5 := ((Fr.refl [] wr).alloc _ |>.mono (S' := [wr.heap.size]) (by simp)).trans hf5 |>.mono (S' := []) (by simp)
        have hb6 := hb5.all
        simp only [List.toList_toArray] at hb6
        have HB5 := Lib.hid hb6; have HF5 := Lib.hid (HF.out.trans f5)
        clear hb5 hf5 f5 HF HC hb6
        generalize wr.heap.size = sb at HB5 ⊢
        go_wp2_with ((with_reducible refine selD 14 ?_); go_must (refine wpList_load_cs _ rfl 53 _ rfl sb 0 cs rfl (Tryz.isAgg53 _) (by rw [HL.out]; exact Tryz.sizeOf53 _) HB5.out ?_))
        refine (fits43_any _ cs _ (by rw [HR.out.2]; rfl : cs[0]? = some (.string x.name))).mono ?_
        rintro e w6 ⟨r, rfl, -, f6⟩
        have HF6 := Lib.hid (HF5.out.trans f6)
        clear f6 HF5 HB5
        cases r
        · go_wp2
          go_ret
          exact FitB.no HF6.out
        · go_wp2
          go_roundw
          case rel => exact ⟨k + 1, by omega, by go_num, HF6.out⟩
          case measure => simp [intOf]; omega
      · go_wp2
        go_ret
        exact FitB.yes HBIG.out HF.out _
  · go_enter Tryz.func12, Tryz.ntmps12
    go_wp2
    go_ret
    exact FitB.no (Fr.refl _ _)
set_option maxHeartbeats 1600000 in
set_option maxRecDepth 100000 in
theorem fits13_any (l : List Nam) (v : Value) (w : World) (hl : l.length ≤ 9223372036854775807) (h : Sl 3 NamR w v l) : Calls Tryz.prog 13 #[v] w (FitB (l.length ≤ 2147483647) w) := by
  obtain ⟨b, off, c, A, rfl, hA, hE⟩ := h.elim
  have HA := Lib.hid hA; have HE := Lib.hid hE
  clear hA hE h
  by_cases hbig : l.length ≤ 2147483647
  · have HBIG := Lib.hid hbig
    go_enter Tryz.func13, Tryz.ntmps13
    go_wp2_with fail
    go_loopw [10] (fun c0 y => ∃ k : Nat, k ≤ l.length ∧ c0 = .int .i64 k ∧ Fr [] w y) (fun c _ => l.length - (intOf c).toNat)
    case atStart => exact ⟨0, Nat.zero_le _, rfl, Fr.refl _ _⟩
    case round =>
      obtain ⟨k, hk, rfl, hf⟩ := hrel
      have HF := Lib.hid hf
      clear hf
      by_cases hlt : k < l.length
      · obtain ⟨x, hx⟩ : ∃ x, l[k]? = some x := ⟨_, List.getElem?_eq_getElem hlt⟩
        have hne : l ≠ [] := by rintro rfl; simp at hlt
        obtain rfl := HA.out hne
        obtain ⟨cs, hR, hlen, hc⟩ := HE.out k x hx
        have h0k : (0 : Int) ≤ (k : Int) := by omega
        have hkl : (k : Int) < (l.length : Int) := by omega
        have HC := Lib.hid (HF.out.cs (by simp) hc)
        have HR := Lib.hid hR; have HL := Lib.hid hlen
        have HONE := Lib.hid (nam_one hR)
        clear hx hne hlen hc hR
        go_wp2_with (first | ((with_reducible refine selD 13 ?_); go_must (refine wpList_load_cs _ rfl 57 _ rfl b (off + k * 3) cs rfl (Tryz.isAgg57 _) (by rw [HL.out]; exact Tryz.sizeOf57 _) HC.out ?_)) | ((with_reducible refine selS 57 ?_); go_must (refine wpList_store_all _ rfl 57 _ _ rfl _ 57 _ cs rfl rfl (by rw [HL.out]; exact Tryz.sizeOf57 _) (Blk.new _ 57 _) (by rw [HL.out]; rfl) HONE.out ?_; intro w5 hb5 hf5; refine Hid.out ?_)))
        refine Lib.hid ?_
        have f5 : Fr [] wr w5 := ((Fr.refl [] wr).alloc _ |>.mono (S' := [wr.heap.size]) (by simp)).trans hf5 |>.mono (S' := []) (by simp)
        have hb6 := hb5.all
        simp only [List.toList_toArray] at hb6
        have HB5 := Lib.hid hb6; have HF5 := Lib.hid (HF.out.trans f5)
        clear hb5 hf5 f5 HF HC hb6
        generalize wr.heap.size = sb at HB5 ⊢
        go_wp2_with ((with_reducible refine selD 14 ?_); go_must (refine wpList_load_cs _ rfl 57 _ rfl sb 0 cs rfl (Tryz.isAgg57 _) (by rw [HL.out]; exact Tryz.sizeOf57 _) HB5.out ?_))
        refine (fits44_any _ cs _ (by rw [HR.out.2]; rfl : cs[2]? = some (.string x.name))).mono ?_
        rintro e w6 ⟨r, rfl, -, f6⟩
        have HF6 := Lib.hid (HF5.out.trans f6)
        clear f6 HF5 HB5
        cases r
        · go_wp2
          go_ret
          exact FitB.no HF6.out
        · go_wp2
          go_roundw
          case rel => exact ⟨k + 1, by omega, by go_num, HF6.out⟩
          case measure => simp [intOf]; omega
      · go_wp2
        go_ret
        exact FitB.yes HBIG.out HF.out _
  · go_enter Tryz.func13, Tryz.ntmps13
    go_wp2
    go_ret
    exact FitB.no (Fr.refl _ _)
set_option maxHeartbeats 1600000 in
set_option maxRecDepth 100000 in
theorem fits11_any (l : List Def) (v : Value) (w : World) (hl : l.length ≤ 9223372036854775807) (h : Sl 10 (DefR w) w v l) : Calls Tryz.prog 11 #[v] w (FitB (l.length ≤ 2147483647) w) := by
  obtain ⟨b, off, c, A, rfl, hA, hE⟩ := h.elim
  have HA := Lib.hid hA; have HE := Lib.hid hE
  clear hA hE h
  by_cases hbig : l.length ≤ 2147483647
  · have HBIG := Lib.hid hbig
    go_enter Tryz.func11, Tryz.ntmps11
    go_wp2_with fail
    go_loopw [10] (fun c0 y => ∃ k : Nat, k ≤ l.length ∧ c0 = .int .i64 k ∧ Fr [] w y) (fun c _ => l.length - (intOf c).toNat)
    case atStart => exact ⟨0, Nat.zero_le _, rfl, Fr.refl _ _⟩
    case round =>
      obtain ⟨k, hk, rfl, hf⟩ := hrel
      have HF := Lib.hid hf
      clear hf
      by_cases hlt : k < l.length
      · obtain ⟨x, hx⟩ : ∃ x, l[k]? = some x := ⟨_, List.getElem?_eq_getElem hlt⟩
        have hne : l ≠ [] := by rintro rfl; simp at hlt
        obtain rfl := HA.out hne
        obtain ⟨cs, hR, hlen, hc⟩ := HE.out k x hx
        have h0k : (0 : Int) ≤ (k : Int) := by omega
        have hkl : (k : Int) < (l.length : Int) := by omega
        have HC := Lib.hid (HF.out.cs (by simp) hc)
        have HR := Lib.hid hR; have HL := Lib.hid hlen
        have HONE := Lib.hid (def_one hR)
        clear hx hne hlen hc hR
        go_wp2_with (first | ((with_reducible refine selD 13 ?_); go_must (refine wpList_load_cs _ rfl 51 _ rfl b (off + k * 10) cs rfl (Tryz.isAgg51 _) (by rw [HL.out]; exact Tryz.sizeOf51 _) HC.out ?_)) | ((with_reducible refine selS 51 ?_); go_must (refine wpList_store_all _ rfl 51 _ _ rfl _ 51 _ cs rfl rfl (by rw [HL.out]; exact Tryz.sizeOf51 _) (Blk.new _ 51 _) (by rw [HL.out]; rfl) HONE.out ?_; intro w5 hb5 hf5; refine Hid.out ?_)))
        refine Lib.hid ?_
        have f5 : Fr [] wr w5 := ((Fr.refl [] wr).alloc _ |>.mono (S' := [wr.heap.size]) (by simp)).trans hf5 |>.mono (S' := []) (by simp)
        have hb6 := hb5.all
        simp only [List.toList_toArray] at hb6
        have HB5 := Lib.hid hb6; have HF5 := Lib.hid (HF.out.trans f5)
        clear hb5 hf5 f5 HF HC hb6
        generalize wr.heap.size = sb at HB5 ⊢
        go_wp2_with ((with_reducible refine selD 14 ?_); go_must (refine wpList_load_cs _ rfl 51 _ rfl sb 0 cs rfl (Tryz.isAgg51 _) (by rw [HL.out]; exact Tryz.sizeOf51 _) HB5.out ?_))
        obtain ⟨vr, va, e7, e8, e9, _, s1, s2⟩ := def_parts HR.out
        obtain ⟨A1, k1, rfl, _⟩ := s1
        obtain ⟨A2, k2, rfl, _⟩ := s2
        have e0 := (def_sy2 HR.out).2.1
        refine (fits42_any _ cs x.name x.data A1 A2 x.rels.length x.auxs.length k1 k2 e0 e7 e8 e9).mono ?_
        clear e0 e7 e8 e9
        rintro e w6 ⟨r, rfl, -, f6⟩
        have HF6 := Lib.hid (HF5.out.trans f6)
        clear f6 HF5 HB5
        cases r
        · go_wp2
          go_ret
          exact FitB.no HF6.out
        · go_wp2
          go_roundw
          case rel => exact ⟨k + 1, by omega, by go_num, HF6.out⟩
          case measure => simp [intOf]; omega
      · go_wp2
        go_ret
        exact FitB.yes HBIG.out HF.out _
  · go_enter Tryz.func11, Tryz.ntmps11
    go_wp2
    go_ret
    exact FitB.no (Fr.refl _ _)
set_option maxHeartbeats 1600000 in
set_option maxRecDepth 100000 in
theorem fits10_any (l : List ByteArray) (v : Value) (w : World) (hl : l.length ≤ 9223372036854775807) (h : Sl 1 StrR w v l) : Calls Tryz.prog 10 #[v] w (FitB (l.length ≤ 2147483647) w) := by
  obtain ⟨b, off, c, A, rfl, hA, hE⟩ := h.elim
  have HA := Lib.hid hA; have HE := Lib.hid hE
  clear hA hE h
  by_cases hbig : l.length ≤ 2147483647
  · have HBIG := Lib.hid hbig
    go_enter Tryz.func10, Tryz.ntmps10
    go_wp2_with fail
    go_loopw [10] (fun c0 y => ∃ k : Nat, k ≤ l.length ∧ c0 = .int .i64 k ∧ Fr [] w y) (fun c _ => l.length - (intOf c).toNat)
    case atStart => exact ⟨0, Nat.zero_le _, rfl, Fr.refl _ _⟩
    case round =>
      obtain ⟨k, hk, rfl, hf⟩ := hrel
      have HF := Lib.hid hf
      clear hf
      by_cases hlt : k < l.length
      · obtain ⟨x, hx⟩ : ∃ x, l[k]? = some x := ⟨_, List.getElem?_eq_getElem hlt⟩
        have hne : l ≠ [] := by rintro rfl; simp at hlt
        obtain rfl := HA.out hne
        obtain ⟨cs, hR, hlen, hc⟩ := HE.out k x hx
        have h0k : (0 : Int) ≤ (k : Int) := by omega
        have hkl : (k : Int) < (l.length : Int) := by omega
        obtain rfl : cs = [.string x] := hR
        have c0 := (HF.out.cs (by simp) hc).at0
        rw [Nat.mul_one] at c0
        clear hx hne hlen hc
        go_wp2
        · go_ret
          exact FitB.no HF.out
        · go_roundw
          case rel => exact ⟨k + 1, by omega, by go_num, HF.out⟩
          case measure => simp [intOf]; omega
      · go_wp2
        go_ret
        exact FitB.yes HBIG.out HF.out _
  · go_enter Tryz.func10, Tryz.ntmps10
    go_wp2
    go_ret
    exact FitB.no (Fr.refl _ _)

end Go.Proofs.YtnhafphgkipldaaGreatDoor
