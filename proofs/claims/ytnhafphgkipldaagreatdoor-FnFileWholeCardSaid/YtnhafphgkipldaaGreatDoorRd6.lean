/- The header read: (*goobj.Header).Read, NewReaderFromBytes. Conditions: the bytes begin with a header. -/
import Derived.Test.YtnhafphgkipldaaGreatDoorRd5
import Derived.Laws.CopyRow
import Derived.Deep.RegionHeld3
namespace Go.Proofs.YtnhafphgkipldaaGreatDoor
open Go Go.RowKit

/-- The cells of a reader whose header has been read so far. -/
def pcells (g n c : Nat) (s : ByteArray) (fp : By) (fl : Int) (os : List Int) : List Value := [.slice (some ⟨g, 0, none⟩) n c, .bool false, .int .u32 0, .string s] ++ Lib.byteCells fp ++ [.int .u32 fl] ++ os.map (Value.int .u32 ·)
theorem pcells_r (g n c : Nat) (fp : By) (fl : Int) (os : List Int) : pcells g n c magic fp fl os = rcells g n c fp fl os := by simp [pcells, rcells, hcells]
/-- Block r's slice is of the bytes l. -/
structure Rb (l : By) (w : World) (r g c : Nat) : Prop where
  c0 : w.cell? ⟨r, 0, none⟩ = some (.slice (some ⟨g, 0, none⟩) l.length c)
  cap : l.length ≤ c
  cs : Cs w g 0 (Lib.byteCells l)
theorem Rb.fr {l : By} {w w' : World} {r g c : Nat} (h : Rb l w r g c) (f : Fr [] w w') : Rb l w' r g c := ⟨f.cell (by simp) h.c0, h.cap, f.cs (by simp) h.cs⟩

section
variable {l : By} {w w' : World} {r g c : Nat}
set_option maxHeartbeats 400000 in
theorem bytesAtB_any (h : Rb l w r g c) (o n : Nat) (hn : 0 < n) (ho : o + n ≤ l.length) (hl : l.length < 2147483648) :
    Calls Tryz.prog 121 #[.pointer (some ⟨r, 0, none⟩), .int .u32 o, .int .i64 n] w fun e w' => e = .returned (.slice (some ⟨g, o, none⟩) n n) ∧ w' = w := by
  have c0 := h.c0
  have hc := h.cap
  clear h
  go_enter Tryz.func121, Tryz.ntmps121
  go_wp2_with fail
  go_ret
  rw [show o + n - o = n by omega]
  exact ⟨rfl, rfl⟩
set_option maxHeartbeats 400000 in
theorem uint32AtB_any (h : Rb l w r g c) (o : Nat) (x : Int) (hx : u32ok x) (ho : At l o (le4 x)) (hl : l.length < 2147483648) :
    Calls Tryz.prog 131 #[.pointer (some ⟨r, 0, none⟩), .int .u32 o] w fun e w' => e = .returned (.int .u32 x) ∧ ∃ k, w' = w.drewN k := by
  have H := Lib.hid h; have HO := Lib.hid ho
  have hle := ho.le
  rw [le4_len] at hle
  clear h ho
  go_enter Tryz.func131, Tryz.ntmps131
  go_wp2_with fail
  refine (bytesAtB_any H.out o 4 (by omega) hle hl).mono ?_
  rintro e w1 ⟨rfl, rfl⟩
  go_wp2_with fail
  refine (le32_any g o 4 4 x _ (by omega) hx.1 hx.2 (HO.out.cs H.out.cs)).mono ?_
  rintro e w2 ⟨rfl, k, rfl⟩
  go_wp2
  go_ret
  exact ⟨rfl, k, rfl⟩

/-- The offsets read so far. -/
def osk (os : List Int) (k : Nat) : List Int := os.take k ++ List.replicate (19 - k) 0
theorem osk_set (os : List Int) (k : Nat) (x : Int) (ho : os.length = 19) (hx : os[k]? = some x) : (osk os k).set k x = osk os (k + 1) := by
  have hk : k < 19 := by rw [← ho]; exact (List.getElem?_eq_some_iff.1 hx).1
  unfold osk
  rw [List.set_append_right _ _ (by simp only [List.length_take]; omega)]
  have e1 : k - (os.take k).length = 0 := by simp only [List.length_take]; omega
  rw [e1, show 19 - k = (19 - (k + 1)) + 1 by omega, List.replicate_succ, List.set_cons_zero, List.take_add_one, hx]
  simp

set_option maxHeartbeats 3200000 in
set_option maxRecDepth 100000 in
theorem headRead_any (fp t : By) (fl : Int) (os : List Int) (hfp : fp.length = 8) (hos : os.length = 19) (hoo : ∀ o ∈ os, u32ok o) (hfl : u32ok fl) (hl : l = hbytes magic fp fl os ++ t) (hll : l.length < 2147483648)
    (hb : Blk w r 196 (pcells g l.length c ByteArray.empty [0, 0, 0, 0, 0, 0, 0, 0] 0 (osk os 0)).toArray) (hc : l.length ≤ c) (hcs : Cs w g 0 (Lib.byteCells l)) (hgr : g ≠ r) :
    Calls Tryz.prog 119 #[.pointer (some ⟨r, 3, none⟩), .pointer (some ⟨r, 0, none⟩)] w fun e w' => e = .returned .nilIface ∧ Blk w' r 196 (rcells g l.length c fp fl os).toArray ∧ Fr [r] w w' := by
  have a0 : At l 0 magic.data.toList := ⟨[], fp ++ le4 fl ++ os.flatMap le4 ++ t, by rw [hl]; simp [hbytes], rfl⟩
  have a1 : At l 8 fp := ⟨magic.data.toList, le4 fl ++ os.flatMap le4 ++ t, by rw [hl]; simp [hbytes], rfl⟩
  have a2 : At l 16 (le4 fl) := ⟨magic.data.toList ++ fp, os.flatMap le4 ++ t, by rw [hl]; simp [hbytes], by rw [List.length_append, hfp]; rfl⟩
  have a3 : ∀ k x, os[k]? = some x → At l (20 + 4 * k) (le4 x) := by
    intro k x hx
    refine ⟨magic.data.toList ++ fp ++ le4 fl ++ (os.take k).flatMap le4, (os.drop (k + 1)).flatMap le4 ++ t, ?_, ?_⟩
    · rw [hl]
      have : os.flatMap le4 = (os.take k).flatMap le4 ++ le4 x ++ (os.drop (k + 1)).flatMap le4 := flatMap_mid le4 os k x hx
      simp only [hbytes, this, List.append_assoc]
    · have hk := (List.getElem?_eq_some_iff.1 hx).1
      simp only [List.length_append, hfp, le4_len, flatMap_le4, List.length_take, str_len]
      have : magic.size = 8 := rfl
      omega
  have hlen : 96 ≤ l.length := by
    rw [hl]
    have : magic.size = 8 := rfl
    simp only [hbytes, List.length_append, hfp, le4_len, flatMap_le4, hos, str_len]
    omega
  have hcv : (convert 35 9 (.slice (some ⟨g, 0, none⟩) 8 8)).run Tryz.prog w = .ok (.string { data := #[0, 103, 111, 49, 50, 48, 108, 100] }) w := by
    exact run_convert_bytes_back (P := Tryz.prog) w 35 9 5 ⟨g, 0, none⟩ 8 magic.data.toList (by rfl) (by rfl) (by rfl) (fun j hj => by
      have := (a0.cs hcs) j (.int .u8 (magic.data.toList[j].toNat : Int)) (by rw [bc_get, List.getElem?_eq_getElem hj]; rfl)
      rw [Lib.addr_add]; exact this)
  have R0 : Rb l w r g c := ⟨by rw [hb.cell]; rfl, hc, hcs⟩
  have c3 : w.cell? ⟨r, 3, none⟩ = some (.string ByteArray.empty) := by rw [hb.cell]; rfl
  have f3 := hb.frozen 3
  have HA0 := Lib.hid a0; have HA1 := Lib.hid a1; have HA2 := Lib.hid a2; have HA3 := Lib.hid a3
  have HB := Lib.hid hb; have HR := Lib.hid R0; have HOO := Lib.hid hoo; have HOS := Lib.hid hos; have HFP := Lib.hid hfp; have HFL := Lib.hid hfl; have HCS := Lib.hid hcs
  clear a0 a1 a2 a3 hb R0 hoo hos hfp hfl hl hcs
  go_enter Tryz.func119, Tryz.ntmps119
  go_wp2_with fail
  refine (bytesAtB_any HR.out 0 8 (by omega) (by omega) hll).mono ?_
  rintro e w1 ⟨rfl, hw1⟩
  rw [hw1]
  clear hw1 w1
  go_wp2_with fail
  have B1 : Blk (w.setCell ⟨r, 3, none⟩ (.string { data := #[0, 103, 111, 49, 50, 48, 108, 100] })) r 196 (pcells g l.length c magic [0, 0, 0, 0, 0, 0, 0, 0] 0 (osk os 0)).toArray :=
    Blk.put (p := [.slice (some ⟨g, 0, none⟩) l.length c, .bool false, .int .u32 0]) (v := .string ByteArray.empty) (q := Lib.byteCells [0, 0, 0, 0, 0, 0, 0, 0] ++ [.int .u32 0] ++ (osk os 0).map (Value.int .u32 ·)) HB.out 3 rfl (.string magic)
  have F1 : Fr [r] w (w.setCell ⟨r, 3, none⟩ (.string { data := #[0, 103, 111, 49, 50, 48, 108, 100] })) := (Fr.refl [r] w).set (.inl (by simp)) _
  generalize w.setCell ⟨r, 3, none⟩ (.string { data := #[0, 103, 111, 49, 50, 48, 108, 100] }) = w1 at B1 F1 ⊢
  clear c3 f3 hcv
  have S1 := Lib.hid (F1.cs (by simpa using hgr) HCS.out)
  have R1 : Hid (Rb l w1 r g c) := Lib.hid ⟨by rw [B1.cell]; rfl, hc, S1.out⟩
  have HF1 := Lib.hid F1
  have HB1 := Lib.hid B1
  clear F1 B1 HB HR HCS
  go_still_tail 7, (by kernel_rfl)
  still_call (bytesAtB_any (R1.out.fr (Fr.refl [] w1).drew) 8 8 (by omega) (by omega) hll)
  repeat still_step
  refine wpStill_nil ?_
  change wpList _ _ _ _ _ w1.drew
  have hcp : ∀ ty, (Builtin.copy_ #[35, 35] ty #[.slice (some ⟨r, 4, none⟩) 8 8, .slice (some ⟨g, 8, none⟩) 8 8]).run Tryz.prog w1.drew = .ok (goInt 8) (w1.drew.setRow r (pcells g l.length c magic fp 0 (osk os 0)).toArray) := by
    intro ty
    have h1 := run_copy_row (P := Tryz.prog) w1.drew 35 35 ty 5 r 4 8 8 ⟨g, 8, none⟩ 8 8 _ 196 (Lib.byteCells fp) (by rfl) (by kernel_rfl) HB1.out.drew (by rw [bc_len, HFP.out]; rfl) (by
      have := (HA1.out.cs S1.out)
      exact Cs.addr (Cs.drew this)) (by simp [pcells, bc_len, HFP.out]) (bc_one fp)
    rw [bc_len, HFP.out] at h1
    rw [h1]
    congr 2
    simp [pcells, Lib.byteCells]
  have B2 : Blk (w1.drew.setRow r (pcells g l.length c magic fp 0 (osk os 0)).toArray) r 196 (pcells g l.length c magic fp 0 (osk os 0)).toArray := setRow_heap w1.drew r _ _ 196 (0, 0) HB1.out.drew
  have F2 : Fr [r] w1 (w1.drew.setRow r (pcells g l.length c magic fp 0 (osk os 0)).toArray) := ⟨rfl, rfl, rfl, by simp [World.setRow], fun k _ hk => setRow_other w1.drew r k _ (by simpa using hk)⟩
  have HB2 := Lib.hid B2; have HF2 := Lib.hid (HF1.out.trans F2); have S2 := Lib.hid (F2.cs (by simpa using hgr) S1.out)
  clear B2 F2 HB1 HF1 S1 R1
  generalize w1.drew = w2 at hcp HB2 HF2 S2 ⊢
  go_wp2_with fail
  generalize w2.setRow r (pcells g l.length c magic fp 0 (osk os 0)).toArray = w3 at HB2 HF2 S2 ⊢
  clear hcp
  have R3 : Hid (Rb l w3 r g c) := Lib.hid ⟨by rw [HB2.out.cell]; rfl, hc, S2.out⟩
  refine ((uint32AtB_any R3.out 16 fl HFL.out HA2.out hll).mono fun _ _ h => toFr h).mono ?_
  rintro e w4 ⟨rfl, f4⟩
  have B4 := f4.blk (by simp) HB2.out
  have c12 : w4.cell? ⟨r, 12, none⟩ = some (.int .u32 0) := by
    rw [B4.cell]
    have : (Lib.byteCells fp).length = 8 := by rw [bc_len]; exact HFP.out
    simp [pcells, List.getElem?_append_right, this]
  have f12 := B4.frozen 12
  have HB4 := Lib.hid B4; have HF4 := Lib.hid (HF2.out.trans (f4.mono (S' := [r]) (by simp))); have S4 := Lib.hid (f4.cs (by simp) S2.out)
  clear B4 f4 HB2 HF2 S2 R3
  go_wp2_with fail
  have hp12 : (([.slice (some ⟨g, 0, none⟩) l.length c, .bool false, .int .u32 0, .string magic] : List Value) ++ Lib.byteCells fp).length = 12 := by simp [bc_len, HFP.out]
  have B5 : Blk (w4.setCell ⟨r, 12, none⟩ (.int .u32 fl)) r 196 (pcells g l.length c magic fp fl (osk os 0)).toArray := by
    have := Blk.put (p := [.slice (some ⟨g, 0, none⟩) l.length c, .bool false, .int .u32 0, .string magic] ++ Lib.byteCells fp) (v := .int .u32 0) (q := (osk os 0).map (Value.int .u32 ·)) (by have := HB4.out; simpa [pcells] using this) 12 hp12.symm (.int .u32 fl)
    simpa [pcells] using this
  have F5 := (Fr.refl [r] w4).set (p := ⟨r, 12, none⟩) (.inl (by simp)) (.int .u32 fl)
  generalize w4.setCell ⟨r, 12, none⟩ (.int .u32 fl) = w5 at B5 F5 ⊢
  have HB5 := Lib.hid B5; have HF5 := Lib.hid (HF4.out.trans F5); have S5 := Lib.hid (F5.cs (by simpa using hgr) S4.out)
  clear c12 f12 B5 F5 HB4 HF4 S4 hp12
  go_loopw [45, 6] (fun c0 t x => ∃ k : Nat, k ≤ 19 ∧ c0 = .int .i64 k ∧ t = .int .u32 ((20 + 4 * k : Nat) : Int) ∧ Blk x r 196 (pcells g l.length c magic fp fl (osk os k)).toArray ∧ Fr [r] w x ∧ Cs x g 0 (Lib.byteCells l)) (fun c _ _ => 19 - (intOf c).toNat)
  case atStart => exact ⟨0, by omega, rfl, rfl, HB5.out, HF5.out, S5.out⟩
  case round =>
    obtain ⟨k, hk, rfl, rfl, h1, h2, h3⟩ := hrel
    have HB := Lib.hid h1; have HF := Lib.hid h2; have S := Lib.hid h3
    clear h1 h2 h3
    by_cases hlt : k < 19
    · obtain ⟨x, hx⟩ : ∃ x, os[k]? = some x := ⟨_, List.getElem?_eq_getElem (by rw [HOS.out]; exact hlt)⟩
      have hxo := HOO.out x (List.mem_of_getElem? hx)
      have HX := Lib.hid hx
      have hat := HA3.out k x hx
      have hle := hat.le
      rw [le4_len] at hle
      have HAT := Lib.hid hat
      have hk3 : (k : Int) < 19 := by omega
      clear hx hat
      obtain ⟨q, hq⟩ : ∃ q : Nat, q = 20 + 4 * k := ⟨_, rfl⟩
      rw [← hq] at HAT hle ⊢
      have HQ := Lib.hid hq
      clear hq
      go_wp2_with fail
      have hpl : (([.slice (some ⟨g, 0, none⟩) l.length c, .bool false, .int .u32 0, .string magic] : List Value) ++ Lib.byteCells fp ++ [Value.int .u32 fl]).length = 13 := by simp [bc_len, HFP.out]
      have hok : (osk os k)[k]? = some 0 := by
        unfold osk
        rw [List.getElem?_append_right (by simp only [List.length_take]; omega)]
        simp only [List.length_take, HOS.out]
        rw [show k - min k 19 = 0 by omega, show 19 - k = (18 - k) + 1 by omega, List.replicate_succ]
        rfl
      have hcell : (pcells g l.length c magic fp fl (osk os k)).toArray[13 + k]? = some (.int .u32 0) := by
        rw [List.getElem?_toArray]
        unfold pcells
        rw [List.getElem?_append_right (by omega), hpl, show 13 + k - 13 = k by omega, List.getElem?_map, hok]
        rfl
      have C0 : ∀ x, Fr [] wr x → x.cell? ⟨r, 13 + k, none⟩ = some (.int .u32 0) := fun x h => h.cells1 (by simp) HB.out _ _ hcell
      have Z0 : ∀ x j, Fr [] wr x → x.frozen? ⟨r, j, none⟩ = false := fun x j h => (h.blk (by simp) HB.out).frozen j
      have KX : ∀ x1, Fr [] wr x1 → Calls Tryz.prog 131 #[.pointer (some ⟨r, 0, none⟩), .int .u32 (q : Int)] x1 fun e w' => e = .returned (.int .u32 x) ∧ ∃ k, w' = x1.drewN k := fun x1 f => uint32AtB_any (⟨by rw [(f.blk (by simp) HB.out).cell]; rfl, hc, f.cs (by simp) S.out⟩ : Rb l x1 r g c) q x hxo HAT.out hll
      have RN : ∀ n, Fr [] wr (wr.drewN n) := fun n => (Fr.refl [] wr).drewN n
      have RD : Fr [] wr wr.drew := (Fr.refl [] wr).drew
      have RM : ∀ n, Fr [r] wr (wr.drewN n) := fun n => (Fr.refl _ wr).drewN n
      clear hpl hok hcell
      go_region_held3 (fun x => Fr [r] wr x) (first | exact RM _ | exact (Fr.refl _ wr).drew | exact (RM _).set (.inl (by simp)) _)
        (first | (go_at_call 131; (with_reducible refine Calls.mono (KX _ (by first | exact RN _ | exact RD)) ?_); rintro e w' ⟨rfl, k1, rfl⟩))
      rename_i hH
      have B9 : Blk ((wr.drewN (1 + k1)).setCell ⟨r, 13 + k, none⟩ (.int .u32 x)) r 196 (pcells g l.length c magic fp fl (osk os (k + 1))).toArray := by
        have h1 := (HB.out.drewN (1 + k1)).set (13 + k) (.int .u32 x)
        have e1 : (pcells g l.length c magic fp fl (osk os k)).toArray.setIfInBounds (13 + k) (.int .u32 x) = (pcells g l.length c magic fp fl (osk os (k + 1))).toArray := by
          rw [List.setIfInBounds_toArray, ← osk_set os k x HOS.out HX.out]
          congr 1
          have hpl : (([.slice (some ⟨g, 0, none⟩) l.length c, .bool false, .int .u32 0, .string magic] : List Value) ++ Lib.byteCells fp ++ [Value.int .u32 fl]).length = 13 := by simp [bc_len, HFP.out]
          unfold pcells
          rw [List.set_append_right _ _ (by omega), hpl, show 13 + k - 13 = k by omega, List.map_set]
        rwa [e1] at h1
      have HB9 := Lib.hid B9; have HF9 := Lib.hid (HF.out.trans hH)
      have S9 := Lib.hid (hH.cs (by simpa using hgr) S.out)
      clear C0 Z0 KX RN RD RM hH B9
      generalize (wr.drewN (1 + k1)).setCell ⟨r, 13 + k, none⟩ (.int .u32 x) = w9 at HB9 HF9 S9 ⊢
      go_wp2
      go_roundw
      case rel => exact ⟨k + 1, by omega, by go_num, by have := HQ.out; go_num, HB9.out, HF9.out, S9.out⟩
      case measure => simp [intOf]; omega
    · have e : k = 19 := by omega
      subst e
      go_wp2
      go_ret
      refine ⟨rfl, ?_, HF.out⟩
      have h1 := HB.out
      rw [pcells_r] at h1
      simpa [osk, List.take_of_length_le (Nat.le_of_eq HOS.out)] using h1
end

end Go.Proofs.YtnhafphgkipldaaGreatDoor

/- NewReaderFromBytes, over the bytes of a file. Conditions: the bytes begin with a header. -/
namespace Go.Proofs.YtnhafphgkipldaaGreatDoor
open Go Go.RowKit

set_option maxHeartbeats 1600000 in
set_option maxRecDepth 100000 in
theorem newReader_any (l fp t : By) (fl : Int) (os : List Int) (g c : Nat) (w : World) (hfp : fp.length = 8) (hos : os.length = 19) (hoo : ∀ o ∈ os, u32ok o) (hfl : u32ok fl) (hl : l = hbytes magic fp fl os ++ t) (hll : l.length < 2147483648)
    (hc : l.length ≤ c) (hcs : Cs w g 0 (Lib.byteCells l)) (hg : g < w.heap.size) :
    Calls Tryz.prog 63 #[.slice (some ⟨g, 0, none⟩) l.length c, .bool false] w fun e w' => ∃ r, e = .returned (.pointer (some ⟨r, 0, none⟩)) ∧ Rd l fp fl os w' r g c ∧ Fr [] w w' := by
  have HCS := Lib.hid hcs; have HFP := Lib.hid hfp; have HOS := Lib.hid hos; have HOO := Lib.hid hoo; have HFL := Lib.hid hfl; have HL := Lib.hid hl
  clear hcs hfp hos hoo hfl hl
  go_enter Tryz.func63, Tryz.ntmps63
  go_wp2_with fail
  have B1 := Blk.new w 196 #[Value.slice (some ⟨g, 0, none⟩) l.length c, .bool false, .int .u32 0, .string { data := #[] }, .int .u8 0, .int .u8 0, .int .u8 0, .int .u8 0, .int .u8 0, .int .u8 0, .int .u8 0, .int .u8 0, .int .u32 0, .int .u32 0, .int .u32 0, .int .u32 0, .int .u32 0, .int .u32 0, .int .u32 0, .int .u32 0, .int .u32 0, .int .u32 0, .int .u32 0, .int .u32 0, .int .u32 0, .int .u32 0, .int .u32 0, .int .u32 0, .int .u32 0, .int .u32 0, .int .u32 0, .int .u32 0]
  have F1 := (Fr.refl [] w).alloc (.cells #[Value.slice (some ⟨g, 0, none⟩) l.length c, .bool false, .int .u32 0, .string { data := #[] }, .int .u8 0, .int .u8 0, .int .u8 0, .int .u8 0, .int .u8 0, .int .u8 0, .int .u8 0, .int .u8 0, .int .u32 0, .int .u32 0, .int .u32 0, .int .u32 0, .int .u32 0, .int .u32 0, .int .u32 0, .int .u32 0, .int .u32 0, .int .u32 0, .int .u32 0, .int .u32 0, .int .u32 0, .int .u32 0, .int .u32 0, .int .u32 0, .int .u32 0, .int .u32 0, .int .u32 0, .int .u32 0] 196)
  generalize w.alloc (.cells #[Value.slice (some ⟨g, 0, none⟩) l.length c, .bool false, .int .u32 0, .string { data := #[] }, .int .u8 0, .int .u8 0, .int .u8 0, .int .u8 0, .int .u8 0, .int .u8 0, .int .u8 0, .int .u8 0, .int .u32 0, .int .u32 0, .int .u32 0, .int .u32 0, .int .u32 0, .int .u32 0, .int .u32 0, .int .u32 0, .int .u32 0, .int .u32 0, .int .u32 0, .int .u32 0, .int .u32 0, .int .u32 0, .int .u32 0, .int .u32 0, .int .u32 0, .int .u32 0, .int .u32 0, .int .u32 0] 196) = w1 at B1 F1 ⊢
  have q := headRead_any (r := w.heap.size) (w := w1) (c := c) (g := g) fp t fl os HFP.out HOS.out HOO.out HFL.out HL.out hll (by rw [show osk os 0 = List.replicate 19 0 from rfl]; exact B1) hc (F1.cs (by simp) HCS.out) (by omega)
  have HF1 := Lib.hid F1; have HC1 := Lib.hid (F1.cs (by simp) HCS.out)
  refine q.mono ?_
  clear q B1 F1
  rintro e w2 ⟨rfl, hb2, hf2⟩
  have HB2 := Lib.hid hb2
  have HF2 := Lib.hid (((HF1.out.mono (S' := [w.heap.size]) (by simp)).trans hf2).mono (S' := []) (by simp))
  have HC2 := Lib.hid (hf2.cs (by simp only [List.mem_singleton]; omega) HC1.out)
  clear hb2 hf2
  go_wp2
  go_ret
  exact ⟨_, rfl, ⟨HB2.out, hc, HC2.out, HFP.out, HOS.out⟩, HF2.out⟩

end Go.Proofs.YtnhafphgkipldaaGreatDoor
