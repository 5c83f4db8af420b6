/- (*goobj.Header).Write: the header's bytes are written. Conditions: the bytes written stay below 2^31. -/
import Derived.Test.YtnhafphgkipldaaGreatDoorBi
namespace Go.Proofs.YtnhafphgkipldaaGreatDoor
open Go Go.RowKit

def hcells (s : ByteArray) (fp : By) (fl : Int) (os : List Int) : List Value := .string s :: Lib.byteCells fp ++ .int .u32 fl :: os.map (Value.int .u32 ·)
def hbytes (s : ByteArray) (fp : By) (fl : Int) (os : List Int) : By := s.data.toList ++ fp ++ le4 fl ++ os.flatMap le4

set_option maxHeartbeats 1600000 in
set_option maxRecDepth 100000 in
theorem headWrite_any (i : WId) (l : By) (M : Tab) (g : Nat) (s : ByteArray) (fp : By) (fl : Int) (os : List Int) (w : World) (hfp : fp.length = 8) (hos : os.length = 19) (ho : ∀ o ∈ os, u32ok o) (hfl : u32ok fl) (hs : s.size ≤ 100)
    (h : Wr i w l M) (hn : l.length ≤ 1000) (hb : Blk w g 64 (hcells s fp fl os).toArray) :
    Calls Tryz.prog 16 #[.pointer (some ⟨g, 0, none⟩), .pointer (some ⟨i.wb, 0, none⟩)] w (WPost i w (l ++ hbytes s fp fl os) M) := by
  have hne := h.out hb (by decide) (by decide)
  have c0 : w.cell? ⟨g, 0, none⟩ = some (.string s) := by rw [hb.cell]; rfl
  have HE := Lib.hid hfp; have HO := Lib.hid hos; have HP := Lib.hid ho; have HH := Lib.hid h; have HB := Lib.hid hb; have HN := Lib.hid hne; have HF := Lib.hid hfl
  clear hfp hos ho h hb hne hfl
  go_enter Tryz.func16, Tryz.ntmps16
  go_wp2_with fail
  refine (rawString_any i _ l M s HH.out (by omega)).mono ?_
  clear c0
  rintro e w1 ⟨rfl, h1, hf⟩
  have W1 := Lib.hid h1; have F1 := Lib.hid hf
  have B1 := Lib.hid (hf.blk HN.out (by decide) HB.out)
  clear h1 hf
  go_wp2_with fail
  have q := bytes_any i w1 _ fp M ⟨g, 1, none⟩ 8 8 W1.out (by simp only [List.length_append, str_len]; omega) HE.out (by
    have := HN.out
    simp only [WId.S, List.mem_cons, List.not_mem_nil, or_false, not_or] at this
    exact this.2.1) (B1.out.part (p := [.string s]) (s := Lib.byteCells fp) (q := .int .u32 fl :: os.map (Value.int .u32 ·)) (by simp [hcells])).addr
  refine q.mono ?_
  clear q
  rintro e w2 ⟨rfl, h2, hf⟩
  have W2 := Lib.hid h2; have F2 := Lib.hid (F1.out.trans hf)
  have B2 := Lib.hid (hf.blk HN.out (by decide) B1.out)
  clear h2 hf
  have c9 : w2.cell? ⟨g, 9, none⟩ = some (.int .u32 fl) := by
    rw [B2.out.cell]
    have : (Lib.byteCells fp).length = 8 := by rw [bc_len]; exact HE.out
    simp [hcells, List.getElem?_append_right, this]
  go_wp2_with fail
  have q := uint32_any i w2 _ M fl HF.out.1 HF.out.2 W2.out (by simp only [List.length_append, str_len]; have := HE.out; omega)
  refine q.mono ?_
  clear q
  rintro e w3 ⟨rfl, h3, hf⟩
  have W3 := Lib.hid h3; have F3 := Lib.hid (F2.out.trans hf)
  have B3 := Lib.hid (hf.blk HN.out (by decide) B2.out)
  clear h3 hf c9
  have HC : Hid (Cs w3 g 10 (os.map (Value.int .u32 ·))) := Lib.hid (by
    have := B3.out.part (p := .string s :: Lib.byteCells fp ++ [.int .u32 fl]) (s := os.map (Value.int .u32 ·)) (q := []) (by simp [hcells])
    have e : (Lib.byteCells fp).length = 8 := by rw [bc_len]; exact HE.out
    simpa [e] using this)
  go_wp2_with ((with_reducible refine selD 27 ?_); go_must (refine wpList_load_cs _ rfl 62 _ rfl g 10 (os.map (Value.int .u32 ·)) rfl (Tryz.isAgg62 _) (by rw [List.length_map, HO.out]; exact Tryz.sizeOf62 _) HC.out ?_))
  go_loopw [28] (fun c x => ∃ k : Nat, k ≤ 19 ∧ c = .int .i64 k ∧ Wr i x (l ++ s.data.toList ++ fp ++ le4 fl ++ (os.take k).flatMap le4) M ∧ Fw i.B i.S w x) (fun c _ => 19 - (intOf c).toNat)
  case atStart => exact ⟨0, Nat.zero_le _, rfl, by simpa using W3.out, F3.out⟩
  case round =>
    obtain ⟨k, hk, rfl, hw, hf⟩ := hrel
    have HW := Lib.hid hw; have HFk := Lib.hid hf
    clear hw hf
    by_cases hlt : k < 19
    · obtain ⟨x, hx⟩ : ∃ x, os[k]? = some x := ⟨_, List.getElem?_eq_getElem (by rw [HO.out]; exact hlt)⟩
      have hix : ∀ W, (Instr.index 62 (.agg (os.map (Value.int .u32 ·)).toArray) (.int .i64 k)).run Tryz.prog W = .ok (.int .u32 x) W := fun W => run_index_arr (n := 19) (by rfl) (fun w => Tryz.isAgg23 w) (fun w => Tryz.sizeOf23 w) _ k hlt _ (by simp [hx]) W
      have hxo := HP.out x (List.mem_of_getElem? hx)
      have HX1 := Lib.hid hx
      clear hx
      go_wp2_with fail
      have q := uint32_any i wr _ M x hxo.1 hxo.2 HW.out (by
        have e1 := HE.out
        have e2 : ((os.take k).flatMap le4).length ≤ 4 * 19 := by
          have : ∀ l : List Int, (l.flatMap le4).length = 4 * l.length := fun l => by induction l with | nil => rfl | cons a t ih => simp only [List.flatMap_cons, List.length_append, le4_len, ih, List.length_cons]; omega
          rw [this]; simp only [List.length_take]; omega
        simp only [List.length_append, str_len, le4_len]; omega)
      refine q.mono ?_
      clear q hix
      rintro e w4 ⟨rfl, h4, hf4⟩
      have H4 := Lib.hid h4; have F4 := Lib.hid (HFk.out.trans hf4)
      clear h4 hf4
      go_wp2
      go_roundw
      case rel => exact ⟨k + 1, by omega, by go_num, by have := H4.out; rw [flatMap_succ _ _ _ _ HX1.out, ← List.append_assoc]; simpa using this, F4.out⟩
      case measure => simp [intOf]; omega
    · have e : k = 19 := by omega
      subst e
      go_wp2
      go_end0
      have h1 := HW.out
      rw [List.take_of_length_le (by rw [HO.out]; exact Nat.le_refl _)] at h1
      exact ⟨rfl, by simpa [hbytes] using h1, HFk.out⟩

end Go.Proofs.YtnhafphgkipldaaGreatDoor
