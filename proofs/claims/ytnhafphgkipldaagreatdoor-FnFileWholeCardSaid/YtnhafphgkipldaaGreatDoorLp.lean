/- (*goobj.Reader).Relocs, Auxs. Printed by gen_lp.py. Conditions: the records lie in the bytes. -/
import Derived.Test.YtnhafphgkipldaaGreatDoorOwn
namespace Go.Proofs.YtnhafphgkipldaaGreatDoor
open Go Go.RowKit

section
variable {l fp : By} {fl : Int} {os : List Int} {w w' : World} {r g c : Nat}

set_option maxHeartbeats 1600000 in
set_option maxRecDepth 100000 in
theorem relocs_any (h : Rd l fp fl os w r g c) (a d i x : Nat) (rs : List Rel) (ha : os[11]? = some (a : Int)) (hd : os[14]? = some (d : Int)) (ho : At l (a + i * 4) (le4 x ++ le4 ((x + rs.length : Nat) : Int))) (hr : At l (d + x * 23) (rs.flatMap Rel.enc)) (hn : rs.length ≤ 20) (hdl : d + x * 23 < 2000000000) (hl : l.length < 2147483648) :
    Calls Tryz.prog 90 #[.pointer (some ⟨r, 0, none⟩), .int .u32 i] w fun e w' => ∃ m, e = .returned (.slice (some ⟨m, 0, none⟩) rs.length rs.length) ∧ Blk w' m 155 (Lib.byteCells (rs.flatMap Rel.enc)).toArray ∧ Fr [] w w' := by
  obtain ⟨s0, hs0⟩ : ∃ s0, s0 = d + x * 23 := ⟨_, rfl⟩
  have hxb : x + rs.length < 2147483648 := by omega
  have H := Lib.hid h; have HO := Lib.hid ho; have HR := Lib.hid hr; have HA := Lib.hid ha; have HD := Lib.hid hd
  have h1 := ho.le
  rw [List.length_append, le4_len, le4_len] at h1
  have h2 := hr.le
  have hlen : ∀ t : List Rel, (t.flatMap Rel.enc).length = t.length * 23 := by
    intro t
    induction t with
    | nil => rfl
    | cons y t ih => simp only [List.flatMap_cons, List.length_append, rel_len, ih, List.length_cons, Nat.add_mul, Nat.one_mul]; omega
  rw [hlen, ← hs0] at h2
  rw [← hs0] at HR
  have HLn := Lib.hid hlen
  clear h ho hr ha hd hlen
  go_enter Tryz.func90, Tryz.ntmps90
  go_wp2_with fail
  have q := relocOff_any H.out a d i x HA.out HD.out HO.out.left (by omega) hl
  rw [← hs0] at q
  have HS0 := Lib.hid hs0
  have hsb : s0 < 2000000000 := by omega
  clear hs0
  refine q.mono ?_
  clear q
  rintro e w1 ⟨rfl, f1⟩
  have H1 := Lib.hid (H.out.fr f1); have F1 := Lib.hid f1
  clear f1
  go_wp2_with fail
  have q := nReloc_any H1.out a i x (x + rs.length) HA.out HO.out (by omega) hxb hl
  rw [show x + rs.length - x = rs.length by omega] at q
  refine q.mono ?_
  clear q
  rintro e w2 ⟨rfl, f2⟩
  have H2 := Lib.hid (H1.out.fr f2); have F2 := Lib.hid (F1.out.trans f2)
  clear f2 H1 F1
  go_wp2_with ((with_reducible refine selD 16 ?_); go_must (refine wpList_make_full _ rfl _ _ 152 rfl w2.heap.size 155 _ _ 23 (by rfl) (by rfl) (by rfl) (by rfl) .i64 .i64 _ _ rs.length rfl rfl rfl rfl (Nat.le_trans (Nat.mul_le_mul_left _ hn) (by decide)) (by simp only [maxLen]; omega) (Nat.le_refl _) ?_; intro w3 ho3 hg3; refine Hid.out ?_))
  refine Lib.hid ?_
  obtain ⟨ys0, B3, L3⟩ : ∃ ys0 : List Value, Blk w3 w2.heap.size 155 ys0.toArray ∧ ys0.length = rs.length * 23 := ⟨_, made_row ho3⟩
  have F3 := Lib.hid (F2.out.trans (Fr.grown hg3))
  have hmw : w.heap.size ≤ w2.heap.size := F2.out.size
  have HB3 := Lib.hid B3; have HL3 := Lib.hid L3
  have H3 := Lib.hid (H2.out.fr (Fr.grown hg3))
  clear ho3 hg3 B3 L3 F2 H2
  generalize w2.heap.size = m at HB3 hmw ⊢
  go_wp2_with fail
  go_loopw [19] (fun c0 y => ∃ k : Nat, k ≤ rs.length ∧ c0 = .int .i64 k ∧ Fr [] w y ∧ ∃ ys : List Value, ys.length = (rs.length - k) * 23 ∧ Blk y m 155 (Lib.byteCells ((rs.take k).flatMap Rel.enc) ++ ys).toArray) (fun c _ => rs.length - (intOf c).toNat)
  case atStart => exact ⟨0, Nat.zero_le _, rfl, F3.out, ys0, by simpa using HL3.out, by simpa [Lib.byteCells] using HB3.out⟩
  case round =>
    obtain ⟨k, hk, rfl, hf, ys, hys, hb⟩ := hrel
    have HF := Lib.hid hf; have HB := Lib.hid hb; have HY := Lib.hid hys
    clear hf hb hys
    by_cases hlt : k < rs.length
    · obtain ⟨y, hy⟩ : ∃ y, rs[k]? = some y := ⟨_, List.getElem?_eq_getElem hlt⟩
      have hmid := flatMap_mid Rel.enc rs k y hy
      have hat : At l (s0 + k * 23) y.enc := by
        have h1 := HR.out
        rw [hmid] at h1
        have h2 := h1.sub
        rwa [HLn.out, List.length_take, Nat.min_eq_left (by omega)] at h2
      have hle := hat.le
      rw [rel_len] at hle
      have R1 := H.out.fr HF.out
      have c0 := R1.c0
      have hcap := R1.cap
      have HC := Lib.hid (hat.cs' R1)
      have hix : (Instr.arrayAt 155 (.slice (some ⟨g, s0 + k * 23, none⟩) (l.length - (s0 + k * 23)) (c - (s0 + k * 23)))).run Tryz.prog wr = .ok (.pointer (some ⟨g, s0 + k * 23, none⟩)) wr := run_arrayAt (P := Tryz.prog) (w := wr) 155 5 23 _ _ _ (by rfl) (by omega)
      obtain ⟨y1, y2, e1, e2⟩ : ∃ y1 y2 : List Value, ys = y1 ++ y2 ∧ y1.length = 23 := ⟨ys.take 23, ys.drop 23, (List.take_append_drop _ _).symm, by
        have h1 := HY.out
        have h2 : (rs.length - k) * 23 = (rs.length - (k + 1)) * 23 + 23 := by rw [show rs.length - k = (rs.length - (k + 1)) + 1 by omega, Nat.add_mul, Nat.one_mul]
        rw [List.length_take]; omega⟩
      have hy2 : y2.length = (rs.length - (k + 1)) * 23 := by
        have h1 := HY.out
        rw [e1, List.length_append, e2] at h1
        have h2 : (rs.length - k) * 23 = (rs.length - (k + 1)) * 23 + 23 := by rw [show rs.length - k = (rs.length - (k + 1)) + 1 by omega, Nat.add_mul, Nat.one_mul]
        omega
      have hb1 := HB.out
      rw [e1, ← List.append_assoc] at hb1
      have HB1 := Lib.hid hb1
      have HP : Hid (k * 23 = (Lib.byteCells ((rs.take k).flatMap Rel.enc)).length) := Lib.hid (by rw [bc_len, HLn.out, List.length_take, Nat.min_eq_left (by omega)])
      have HE2 := Lib.hid e2; have HY2 := Lib.hid hy2; have HX := Lib.hid hy
      have HLc : Hid ((Lib.byteCells y.enc).length = 23) := Lib.hid (by rw [bc_len, rel_len])
      clear hb1 e1 e2 hy2 hy HB HY hmid hat R1
      go_wp2_with (first | ((with_reducible refine selD 35 ?_); go_must (refine wpList_load_cs _ rfl 155 _ rfl g (s0 + k * 23) (Lib.byteCells y.enc) rfl (Tryz.isAgg155 _) (by rw [HLc.out]; exact Tryz.sizeOf155 _) HC.out ?_)) | ((with_reducible refine selS 155 ?_); go_must (refine wpList_store_cs _ rfl 155 _ _ rfl m (k * 23) 155 (Lib.byteCells ((rs.take k).flatMap Rel.enc)) y1 y2 (Lib.byteCells y.enc) rfl rfl (by rw [HLc.out]; exact Tryz.sizeOf155 _) HB1.out HP.out (by rw [HE2.out, HLc.out]) (bc_one _) ?_; intro w6 hb6 hf6; refine Hid.out ?_)))
      refine Lib.hid ?_
      have HB6 := Lib.hid hb6
      have HF6 : Hid (Fr [] w w6) := Lib.hid (((HF.out.mono (S' := [m]) (by simp)).trans hf6).mono (S' := []) (by simpa using hmw))
      clear hb6 hf6 c0 hix
      go_wp2
      go_roundw
      case rel => exact ⟨k + 1, by omega, by go_num, HF6.out, y2, HY2.out, by
        have h1 := HB6.out
        rw [flatMap_succ _ _ _ _ HX.out, bc_app]
        exact h1⟩
      case measure => simp [intOf]; omega
    · have e : k = rs.length := by omega
      subst e
      go_wp2
      go_ret
      refine ⟨m, rfl, ?_, HF.out⟩
      have e0 : ys = [] := List.eq_nil_of_length_eq_zero (by have := HY.out; simpa using this)
      have h1 := HB.out
      rw [e0, List.append_nil, List.take_length] at h1
      exact h1

set_option maxHeartbeats 1600000 in
set_option maxRecDepth 100000 in
theorem auxs_any (h : Rd l fp fl os w r g c) (a d i x : Nat) (rs : List Aux) (ha : os[12]? = some (a : Int)) (hd : os[15]? = some (d : Int)) (ho : At l (a + i * 4) (le4 x ++ le4 ((x + rs.length : Nat) : Int))) (hr : At l (d + x * 9) (rs.flatMap Aux.enc)) (hn : rs.length ≤ 20) (hdl : d + x * 9 < 2000000000) (hl : l.length < 2147483648) :
    Calls Tryz.prog 92 #[.pointer (some ⟨r, 0, none⟩), .int .u32 i] w fun e w' => ∃ m, e = .returned (.slice (some ⟨m, 0, none⟩) rs.length rs.length) ∧ Blk w' m 163 (Lib.byteCells (rs.flatMap Aux.enc)).toArray ∧ Fr [] w w' := by
  obtain ⟨s0, hs0⟩ : ∃ s0, s0 = d + x * 9 := ⟨_, rfl⟩
  have hxb : x + rs.length < 2147483648 := by omega
  have H := Lib.hid h; have HO := Lib.hid ho; have HR := Lib.hid hr; have HA := Lib.hid ha; have HD := Lib.hid hd
  have h1 := ho.le
  rw [List.length_append, le4_len, le4_len] at h1
  have h2 := hr.le
  have hlen : ∀ t : List Aux, (t.flatMap Aux.enc).length = t.length * 9 := by
    intro t
    induction t with
    | nil => rfl
    | cons y t ih => simp only [List.flatMap_cons, List.length_append, aux_len, ih, List.length_cons, Nat.add_mul, Nat.one_mul]; omega
  rw [hlen, ← hs0] at h2
  rw [← hs0] at HR
  have HLn := Lib.hid hlen
  clear h ho hr ha hd hlen
  go_enter Tryz.func92, Tryz.ntmps92
  go_wp2_with fail
  have q := auxOff_any H.out a d i x HA.out HD.out HO.out.left (by omega) hl
  rw [← hs0] at q
  have HS0 := Lib.hid hs0
  have hsb : s0 < 2000000000 := by omega
  clear hs0
  refine q.mono ?_
  clear q
  rintro e w1 ⟨rfl, f1⟩
  have H1 := Lib.hid (H.out.fr f1); have F1 := Lib.hid f1
  clear f1
  go_wp2_with fail
  have q := nAux_any H1.out a i x (x + rs.length) HA.out HO.out (by omega) hxb hl
  rw [show x + rs.length - x = rs.length by omega] at q
  refine q.mono ?_
  clear q
  rintro e w2 ⟨rfl, f2⟩
  have H2 := Lib.hid (H1.out.fr f2); have F2 := Lib.hid (F1.out.trans f2)
  clear f2 H1 F1
  go_wp2_with ((with_reducible refine selD 16 ?_); go_must (refine wpList_make_full _ rfl _ _ 160 rfl w2.heap.size 163 _ _ 9 (by rfl) (by rfl) (by rfl) (by rfl) .i64 .i64 _ _ rs.length rfl rfl rfl rfl (Nat.le_trans (Nat.mul_le_mul_left _ hn) (by decide)) (by simp only [maxLen]; omega) (Nat.le_refl _) ?_; intro w3 ho3 hg3; refine Hid.out ?_))
  refine Lib.hid ?_
  obtain ⟨ys0, B3, L3⟩ : ∃ ys0 : List Value, Blk w3 w2.heap.size 163 ys0.toArray ∧ ys0.length = rs.length * 9 := ⟨_, made_row ho3⟩
  have F3 := Lib.hid (F2.out.trans (Fr.grown hg3))
  have hmw : w.heap.size ≤ w2.heap.size := F2.out.size
  have HB3 := Lib.hid B3; have HL3 := Lib.hid L3
  have H3 := Lib.hid (H2.out.fr (Fr.grown hg3))
  clear ho3 hg3 B3 L3 F2 H2
  generalize w2.heap.size = m at HB3 hmw ⊢
  go_wp2_with fail
  go_loopw [19] (fun c0 y => ∃ k : Nat, k ≤ rs.length ∧ c0 = .int .i64 k ∧ Fr [] w y ∧ ∃ ys : List Value, ys.length = (rs.length - k) * 9 ∧ Blk y m 163 (Lib.byteCells ((rs.take k).flatMap Aux.enc) ++ ys).toArray) (fun c _ => rs.length - (intOf c).toNat)
  case atStart => exact ⟨0, Nat.zero_le _, rfl, F3.out, ys0, by simpa using HL3.out, by simpa [Lib.byteCells] using HB3.out⟩
  case round =>
    obtain ⟨k, hk, rfl, hf, ys, hys, hb⟩ := hrel
    have HF := Lib.hid hf; have HB := Lib.hid hb; have HY := Lib.hid hys
    clear hf hb hys
    by_cases hlt : k < rs.length
    · obtain ⟨y, hy⟩ : ∃ y, rs[k]? = some y := ⟨_, List.getElem?_eq_getElem hlt⟩
      have hmid := flatMap_mid Aux.enc rs k y hy
      have hat : At l (s0 + k * 9) y.enc := by
        have h1 := HR.out
        rw [hmid] at h1
        have h2 := h1.sub
        rwa [HLn.out, List.length_take, Nat.min_eq_left (by omega)] at h2
      have hle := hat.le
      rw [aux_len] at hle
      have R1 := H.out.fr HF.out
      have c0 := R1.c0
      have hcap := R1.cap
      have HC := Lib.hid (hat.cs' R1)
      have hix : (Instr.arrayAt 163 (.slice (some ⟨g, s0 + k * 9, none⟩) (l.length - (s0 + k * 9)) (c - (s0 + k * 9)))).run Tryz.prog wr = .ok (.pointer (some ⟨g, s0 + k * 9, none⟩)) wr := run_arrayAt (P := Tryz.prog) (w := wr) 163 5 9 _ _ _ (by rfl) (by omega)
      obtain ⟨y1, y2, e1, e2⟩ : ∃ y1 y2 : List Value, ys = y1 ++ y2 ∧ y1.length = 9 := ⟨ys.take 9, ys.drop 9, (List.take_append_drop _ _).symm, by
        have h1 := HY.out
        have h2 : (rs.length - k) * 9 = (rs.length - (k + 1)) * 9 + 9 := by rw [show rs.length - k = (rs.length - (k + 1)) + 1 by omega, Nat.add_mul, Nat.one_mul]
        rw [List.length_take]; omega⟩
      have hy2 : y2.length = (rs.length - (k + 1)) * 9 := by
        have h1 := HY.out
        rw [e1, List.length_append, e2] at h1
        have h2 : (rs.length - k) * 9 = (rs.length - (k + 1)) * 9 + 9 := by rw [show rs.length - k = (rs.length - (k + 1)) + 1 by omega, Nat.add_mul, Nat.one_mul]
        omega
      have hb1 := HB.out
      rw [e1, ← List.append_assoc] at hb1
      have HB1 := Lib.hid hb1
      have HP : Hid (k * 9 = (Lib.byteCells ((rs.take k).flatMap Aux.enc)).length) := Lib.hid (by rw [bc_len, HLn.out, List.length_take, Nat.min_eq_left (by omega)])
      have HE2 := Lib.hid e2; have HY2 := Lib.hid hy2; have HX := Lib.hid hy
      have HLc : Hid ((Lib.byteCells y.enc).length = 9) := Lib.hid (by rw [bc_len, aux_len])
      clear hb1 e1 e2 hy2 hy HB HY hmid hat R1
      go_wp2_with (first | ((with_reducible refine selD 35 ?_); go_must (refine wpList_load_cs _ rfl 163 _ rfl g (s0 + k * 9) (Lib.byteCells y.enc) rfl (Tryz.isAgg163 _) (by rw [HLc.out]; exact Tryz.sizeOf163 _) HC.out ?_)) | ((with_reducible refine selS 163 ?_); go_must (refine wpList_store_cs _ rfl 163 _ _ rfl m (k * 9) 163 (Lib.byteCells ((rs.take k).flatMap Aux.enc)) y1 y2 (Lib.byteCells y.enc) rfl rfl (by rw [HLc.out]; exact Tryz.sizeOf163 _) HB1.out HP.out (by rw [HE2.out, HLc.out]) (bc_one _) ?_; intro w6 hb6 hf6; refine Hid.out ?_)))
      refine Lib.hid ?_
      have HB6 := Lib.hid hb6
      have HF6 : Hid (Fr [] w w6) := Lib.hid (((HF.out.mono (S' := [m]) (by simp)).trans hf6).mono (S' := []) (by simpa using hmw))
      clear hb6 hf6 c0 hix
      go_wp2
      go_roundw
      case rel => exact ⟨k + 1, by omega, by go_num, HF6.out, y2, HY2.out, by
        have h1 := HB6.out
        rw [flatMap_succ _ _ _ _ HX.out, bc_app]
        exact h1⟩
      case measure => simp [intOf]; omega
    · have e : k = rs.length := by omega
      subst e
      go_wp2
      go_ret
      refine ⟨m, rfl, ?_, HF.out⟩
      have e0 : ys = [] := List.eq_nil_of_length_eq_zero (by have := HY.out; simpa using this)
      have h1 := HB.out
      rw [e0, List.append_nil, List.take_length] at h1
      exact h1
end

end Go.Proofs.YtnhafphgkipldaaGreatDoor
