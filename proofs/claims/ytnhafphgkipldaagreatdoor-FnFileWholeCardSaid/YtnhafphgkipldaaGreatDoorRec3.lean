/- The records of an object file: their names set, and written. Conditions: the name is known to the writer. -/
import Derived.Test.YtnhafphgkipldaaGreatDoorRec2
namespace Go.Proofs.YtnhafphgkipldaaGreatDoor
open Go Go.RowKit

set_option maxHeartbeats 1600000 in
set_option maxRecDepth 100000 in
theorem symSetName_any (i : WId) (l : By) (M : Tab) (g : Nat) (p q : List Value) (v0 v1 v2 v3 v4 v5 v6 v7 : Value) (s : ByteArray) (o : Int) (w : World) (hs : s.size ≤ 1000000) (ho : u32ok o) (hl : tlook M s.data.toList = some o) (h : Wr i w l M)
    (hp : p.length = 0) (hb : Blk w g 212 (p ++ v0 :: v1 :: v2 :: v3 :: v4 :: v5 :: v6 :: v7 :: q).toArray) :
    Calls Tryz.prog 109 #[.pointer (some ⟨g, 0, none⟩), .string s, .pointer (some ⟨i.wb, 0, none⟩)] w fun e w' => e = .returned (.tuple #[]) ∧ Wr i w' l M ∧ Blk w' g 212 (p ++ Lib.byteCells (le4 s.size ++ le4 o) ++ q).toArray ∧ Fr [g] w w' := by
  obtain ⟨o0, o1⟩ := ho
  have HH := Lib.hid h; have HL := Lib.hid hl; have HB := Lib.hid hb; have HP := Lib.hid hp
  clear h hl hb hp
  go_enter Tryz.func109, Tryz.ntmps109
  go_wp2_with fail
  refine (putLe32_any g 0 21 21 212 p (v4 :: v5 :: v6 :: v7 :: q) v0 v1 v2 v3 s.size _ (by omega) (by omega) (by omega) HP.out.symm HB.out).mono ?_
  rintro e w1 ⟨rfl, hb, hf⟩
  have W1 : Wr i w1 l M := HH.out.keep hf (by simp only [List.mem_singleton]; rintro x rfl; exact .inr ⟨_, _, HB.out, by decide, by decide, by decide⟩)
  have W2 : Wr i w1.drew l M := W1
  have B1 := Lib.hid hb; have F1 := Lib.hid hf
  clear hb hf HB
  go_wp2_with fail
  go_region_held3 (fun x => Wr i x l M) (assumption)
    (first | (go_at_call 107; refine (stringOff_any i _ l M s o hs HL.out (by assumption)).mono ?_; rintro e w' ⟨rfl, rfl⟩)
           | (go_at_call 106; refine (putLe32_any g 4 17 17 212 (p ++ Lib.byteCells (le4 s.size)) q v4 v5 v6 v7 o _ (by omega) o0 o1 (by rw [List.length_append, HP.out]; rfl) (by have := B1.out.drew; simpa using this)).mono ?_; rintro e w' ⟨rfl, hB, hF⟩; have W3 : Wr i w' l M := W2.keep hF (by simp only [List.mem_singleton]; rintro x rfl; exact .inr ⟨_, _, B1.out, by decide, by decide, by decide⟩); have HB := Lib.hid hB; have HF := Lib.hid hF; clear hB hF))
  go_wp2
  go_end0
  exact ⟨rfl, W3, by have := HB.out; simpa [bc_app] using this, F1.out.trans ((Fr.refl [g] w1).drew.trans HF.out)⟩

set_option maxHeartbeats 1600000 in
set_option maxRecDepth 100000 in
theorem namSetName_any (i : WId) (l : By) (M : Tab) (g : Nat) (p q : List Value) (v0 v1 v2 v3 v4 v5 v6 v7 : Value) (s : ByteArray) (o : Int) (w : World) (hs : s.size ≤ 1000000) (ho : u32ok o) (hl : tlook M s.data.toList = some o) (h : Wr i w l M)
    (hp : p.length = 8) (hb : Blk w g 129 (p ++ v0 :: v1 :: v2 :: v3 :: v4 :: v5 :: v6 :: v7 :: q).toArray) :
    Calls Tryz.prog 61 #[.pointer (some ⟨g, 0, none⟩), .string s, .pointer (some ⟨i.wb, 0, none⟩)] w fun e w' => e = .returned (.tuple #[]) ∧ Wr i w' l M ∧ Blk w' g 129 (p ++ Lib.byteCells (le4 s.size ++ le4 o) ++ q).toArray ∧ Fr [g] w w' := by
  obtain ⟨o0, o1⟩ := ho
  have HH := Lib.hid h; have HL := Lib.hid hl; have HB := Lib.hid hb; have HP := Lib.hid hp
  clear h hl hb hp
  go_enter Tryz.func61, Tryz.ntmps61
  go_wp2_with fail
  refine (putLe32_any g 8 8 8 129 p (v4 :: v5 :: v6 :: v7 :: q) v0 v1 v2 v3 s.size _ (by omega) (by omega) (by omega) HP.out.symm HB.out).mono ?_
  rintro e w1 ⟨rfl, hb, hf⟩
  have W1 : Wr i w1 l M := HH.out.keep hf (by simp only [List.mem_singleton]; rintro x rfl; exact .inr ⟨_, _, HB.out, by decide, by decide, by decide⟩)
  have W2 : Wr i w1.drew l M := W1
  have B1 := Lib.hid hb; have F1 := Lib.hid hf
  clear hb hf HB
  go_wp2_with fail
  go_region_held3 (fun x => Wr i x l M) (assumption)
    (first | (go_at_call 107; refine (stringOff_any i _ l M s o hs HL.out (by assumption)).mono ?_; rintro e w' ⟨rfl, rfl⟩)
           | (go_at_call 106; refine (putLe32_any g 12 4 4 129 (p ++ Lib.byteCells (le4 s.size)) q v4 v5 v6 v7 o _ (by omega) o0 o1 (by rw [List.length_append, HP.out]; rfl) (by have := B1.out.drew; simpa using this)).mono ?_; rintro e w' ⟨rfl, hB, hF⟩; have W3 : Wr i w' l M := W2.keep hF (by simp only [List.mem_singleton]; rintro x rfl; exact .inr ⟨_, _, B1.out, by decide, by decide, by decide⟩); have HB := Lib.hid hB; have HF := Lib.hid hF; clear hB hF))
  go_wp2
  go_end0
  exact ⟨rfl, W3, by have := HB.out; simpa [bc_app] using this, F1.out.trans ((Fr.refl [g] w1).drew.trans HF.out)⟩

set_option maxHeartbeats 400000 in
theorem symWrite_any (i : WId) (l s : By) (M : Tab) (g : Nat) (w : World) (h : Wr i w l M) (hs : s.length = 21) (hn : l.length + 21 < 2147483648) (hb : Blk w g 212 (Lib.byteCells s).toArray) :
    Calls Tryz.prog 110 #[.pointer (some ⟨g, 0, none⟩), .pointer (some ⟨i.wb, 0, none⟩)] w (WPost i w (l ++ s) M) := by
  have HH := Lib.hid h; have HB := Lib.hid hb; have HS := Lib.hid hs
  clear h hb hs
  go_enter Tryz.func110, Tryz.ntmps110
  go_wp2_with fail
  refine (bytes_any i _ l s M ⟨g, 0, none⟩ 21 21 HH.out hn HS.out ?_ ?_).mono ?_
  · obtain ⟨cs, hc⟩ := IsBuffer.blk HH.out.2.1
    exact HB.out.ne hc (by decide)
  · have := HB.out.all
    simpa using this.addr
  · rintro e w1 ⟨rfl, h1, h2⟩
    have H1 := Lib.hid h1; have H2 := Lib.hid h2
    clear h1 h2
    go_wp2
    go_end0
    exact ⟨rfl, H1.out, H2.out⟩

set_option maxHeartbeats 400000 in
theorem relWrite_any (i : WId) (l s : By) (M : Tab) (g : Nat) (w : World) (h : Wr i w l M) (hs : s.length = 23) (hn : l.length + 23 < 2147483648) (hb : Blk w g 155 (Lib.byteCells s).toArray) :
    Calls Tryz.prog 116 #[.pointer (some ⟨g, 0, none⟩), .pointer (some ⟨i.wb, 0, none⟩)] w (WPost i w (l ++ s) M) := by
  have HH := Lib.hid h; have HB := Lib.hid hb; have HS := Lib.hid hs
  clear h hb hs
  go_enter Tryz.func116, Tryz.ntmps116
  go_wp2_with fail
  refine (bytes_any i _ l s M ⟨g, 0, none⟩ 23 23 HH.out hn HS.out ?_ ?_).mono ?_
  · obtain ⟨cs, hc⟩ := IsBuffer.blk HH.out.2.1
    exact HB.out.ne hc (by decide)
  · have := HB.out.all
    simpa using this.addr
  · rintro e w1 ⟨rfl, h1, h2⟩
    have H1 := Lib.hid h1; have H2 := Lib.hid h2
    clear h1 h2
    go_wp2
    go_end0
    exact ⟨rfl, H1.out, H2.out⟩

set_option maxHeartbeats 400000 in
theorem auxWrite_any (i : WId) (l s : By) (M : Tab) (g : Nat) (w : World) (h : Wr i w l M) (hs : s.length = 9) (hn : l.length + 9 < 2147483648) (hb : Blk w g 163 (Lib.byteCells s).toArray) :
    Calls Tryz.prog 118 #[.pointer (some ⟨g, 0, none⟩), .pointer (some ⟨i.wb, 0, none⟩)] w (WPost i w (l ++ s) M) := by
  have HH := Lib.hid h; have HB := Lib.hid hb; have HS := Lib.hid hs
  clear h hb hs
  go_enter Tryz.func118, Tryz.ntmps118
  go_wp2_with fail
  refine (bytes_any i _ l s M ⟨g, 0, none⟩ 9 9 HH.out hn HS.out ?_ ?_).mono ?_
  · obtain ⟨cs, hc⟩ := IsBuffer.blk HH.out.2.1
    exact HB.out.ne hc (by decide)
  · have := HB.out.all
    simpa using this.addr
  · rintro e w1 ⟨rfl, h1, h2⟩
    have H1 := Lib.hid h1; have H2 := Lib.hid h2
    clear h1 h2
    go_wp2
    go_end0
    exact ⟨rfl, H1.out, H2.out⟩

set_option maxHeartbeats 400000 in
theorem flgWrite_any (i : WId) (l s : By) (M : Tab) (g : Nat) (w : World) (h : Wr i w l M) (hs : s.length = 10) (hn : l.length + 10 < 2147483648) (hb : Blk w g 189 (Lib.byteCells s).toArray) :
    Calls Tryz.prog 55 #[.pointer (some ⟨g, 0, none⟩), .pointer (some ⟨i.wb, 0, none⟩)] w (WPost i w (l ++ s) M) := by
  have HH := Lib.hid h; have HB := Lib.hid hb; have HS := Lib.hid hs
  clear h hb hs
  go_enter Tryz.func55, Tryz.ntmps55
  go_wp2_with fail
  refine (bytes_any i _ l s M ⟨g, 0, none⟩ 10 10 HH.out hn HS.out ?_ ?_).mono ?_
  · obtain ⟨cs, hc⟩ := IsBuffer.blk HH.out.2.1
    exact HB.out.ne hc (by decide)
  · have := HB.out.all
    simpa using this.addr
  · rintro e w1 ⟨rfl, h1, h2⟩
    have H1 := Lib.hid h1; have H2 := Lib.hid h2
    clear h1 h2
    go_wp2
    go_end0
    exact ⟨rfl, H1.out, H2.out⟩

set_option maxHeartbeats 400000 in
theorem namWrite_any (i : WId) (l s : By) (M : Tab) (g : Nat) (w : World) (h : Wr i w l M) (hs : s.length = 16) (hn : l.length + 16 < 2147483648) (hb : Blk w g 129 (Lib.byteCells s).toArray) :
    Calls Tryz.prog 62 #[.pointer (some ⟨g, 0, none⟩), .pointer (some ⟨i.wb, 0, none⟩)] w (WPost i w (l ++ s) M) := by
  have HH := Lib.hid h; have HB := Lib.hid hb; have HS := Lib.hid hs
  clear h hb hs
  go_enter Tryz.func62, Tryz.ntmps62
  go_wp2_with fail
  refine (bytes_any i _ l s M ⟨g, 0, none⟩ 16 16 HH.out hn HS.out ?_ ?_).mono ?_
  · obtain ⟨cs, hc⟩ := IsBuffer.blk HH.out.2.1
    exact HB.out.ne hc (by decide)
  · have := HB.out.all
    simpa using this.addr
  · rintro e w1 ⟨rfl, h1, h2⟩
    have H1 := Lib.hid h1; have H2 := Lib.hid h2
    clear h1 h2
    go_wp2
    go_end0
    exact ⟨rfl, H1.out, H2.out⟩

theorem not_row {w : World} {g : Nat} {T : TypeId} {cs : Array Value} (h : Blk w g T cs) (h5 : T ≠ 5) (h113 : T ≠ 113) (h69 : T ≠ 69) : ∀ x ∈ [g], w.heap.size ≤ x ∨ ∃ T cs, Blk w x T cs ∧ T ≠ 5 ∧ T ≠ 113 ∧ T ≠ 69 := by
  simp only [List.mem_singleton]; rintro x rfl; exact .inr ⟨_, _, h, h5, h113, h69⟩

set_option maxHeartbeats 800000 in
set_option maxRecDepth 100000 in
theorem symbol_any (i : WId) (l : By) (M : Tab) (r : Rfd) (w : World) (hr : r.ok) (hs : r.name.size ≤ 1000000) (o : Int) (ho : u32ok o) (hl : tlook M r.name.data.toList = some o) (h : Wr i w l M) (hn : l.length + 21 < 2147483648) :
    Calls Tryz.prog 53 #[.pointer (some ⟨i.wb, 0, none⟩), .string r.name, .agg r.sy.cells.toArray] w (WPost i w (l ++ r.enc M) M) := by
  obtain ⟨s, y⟩ := r
  obtain ⟨y0, y1, y2, y3, y4, y5⟩ := y
  have HR := Lib.hid hr; have HL := Lib.hid hl; have HO := Lib.hid ho
  have k1 := Blk.new w 47 #[.int .u16 y0, .int .u8 y1, .int .u8 y2, .int .u8 y3, .int .u32 y4, .int .u32 y5]
  have K0 := Lib.hid (h.alloc (.cells #[.int .u16 y0, .int .u8 y1, .int .u8 y2, .int .u8 y3, .int .u32 y4, .int .u32 y5] 47))
  have K1 := Lib.hid ((Fw.refl i.B i.S w).alloc h.size (.cells #[.int .u16 y0, .int .u8 y1, .int .u8 y2, .int .u8 y3, .int .u32 y4, .int .u32 y5] 47))
  have HB := h.size
  clear hr hl ho h
  simp only [Sy.cells]
  go_enter Tryz.func53, Tryz.ntmps53
  go_wp2_with fail
  refine (sym_any ⟨y0, y1, y2, y3, y4, y5⟩ _ HR.out).mono ?_
  clear k1
  rintro e w1 ⟨g, rfl, hg, hb, hf⟩
  have W1 := Lib.hid (K0.out.keep hf (by simp))
  have F1 := Lib.hid (K1.out.trans (Fw.of_fr (S := i.S) hf (Wr.size K0.out) (by simp)))
  have B1 := Lib.hid hb
  have hG : w.heap.size ≤ g := by simp at hg; omega
  clear hb hf K0 K1 hg
  go_wp2_with fail
  refine (symSetName_any i l M g [] (Lib.byteCells (Sy.enc ⟨y0, y1, y2, y3, y4, y5⟩)) _ _ _ _ _ _ _ _ s o _ hs HO.out HL.out W1.out rfl B1.out).mono ?_
  rintro e w2 ⟨rfl, h2, hb, hf⟩
  have W2 := Lib.hid h2
  have B2 := Lib.hid hb
  have F2 : Hid (Fw i.B i.S w w2) := Lib.hid (F1.out.thenNew hf HB hG)
  clear h2 hb hf B1 F1
  go_wp2_with fail
  refine (symWrite_any i l (Rfd.enc M ⟨s, ⟨y0, y1, y2, y3, y4, y5⟩⟩) M g _ W2.out rfl hn (by
    have := B2.out
    have e : strOff M s = o := by simp [strOff, HL.out]
    simpa [Rfd.enc, sref, e, bc_app] using this)).mono ?_
  rintro e w3 ⟨rfl, h3, hf⟩
  have W3 := Lib.hid h3; have F3 := Lib.hid (F2.out.trans hf)
  clear h3 hf
  go_wp2
  go_end0
  exact ⟨rfl, W3.out, F3.out⟩

set_option maxHeartbeats 800000 in
set_option maxRecDepth 100000 in
theorem impWrite_any (i : WId) (l : By) (M : Tab) (g : Nat) (r : Imp) (w : World) (hr : r.ok) (hs : r.pkg.size ≤ 1000000) (o : Int) (ho : u32ok o) (hl : tlook M r.pkg.data.toList = some o) (h : Wr i w l M) (hn : l.length + 16 < 2147483648) (hb : Blk w g 121 r.cells.toArray) :
    Calls Tryz.prog 51 #[.pointer (some ⟨g, 0, none⟩), .pointer (some ⟨i.wb, 0, none⟩)] w (WPost i w (l ++ r.enc M) M) := by
  obtain ⟨s, fp⟩ := r
  have c0 : w.cell? ⟨g, 0, none⟩ = some (.string s) := by rw [hb.cell]; rfl
  have HR : fp.length = 8 := hr
  have hne : g ∉ i.S := by
    have h1 := h.ne
    obtain ⟨⟨sc, _, hw⟩, hB, hm, _⟩ := h
    obtain ⟨cs, hc⟩ := IsBuffer.blk hB
    simp only [WId.S, List.mem_cons, List.not_mem_nil, or_false, not_or]
    exact ⟨hb.ne hw (by decide), hb.ne hc (by decide), hb.ne_map hm⟩
  have HE := Lib.hid HR; have HL := Lib.hid hl; have HH := Lib.hid h; have HB := Lib.hid hb; have HN := Lib.hid hne
  clear hr hl h hb hne HR
  go_enter Tryz.func51, Tryz.ntmps51
  go_wp2_with fail
  refine (stringRef_any i _ l M s o hs ho HL.out HH.out (by omega)).mono ?_
  clear c0
  rintro e w1 ⟨rfl, h1, hf⟩
  have W1 := Lib.hid h1; have F1 := Lib.hid hf
  have B1 := Lib.hid (hf.blk HN.out (by decide) HB.out)
  clear h1 hf
  go_wp2_with fail
  refine (bytes_any i _ _ fp M ⟨g, 1, none⟩ 8 8 W1.out (by simp only [List.length_append, le4_len]; omega) HE.out ?_ ?_).mono ?_
  · have := HN.out
    simp only [WId.S, List.mem_cons, List.not_mem_nil, or_false, not_or] at this
    exact this.2.1
  · exact (B1.out.part (p := [.string s]) (s := Lib.byteCells fp) (q := []) (by simp [Imp.cells])).addr
  rintro e w2 ⟨rfl, h2, hf⟩
  have W2 := Lib.hid h2; have F2 := Lib.hid (F1.out.trans hf)
  clear h2 hf
  go_wp2
  go_end0
  have e : strOff M s = o := by simp [strOff, HL.out]
  refine ⟨rfl, ?_, F2.out⟩
  have := W2.out
  simpa [Imp.enc, sref, e] using this

end Go.Proofs.YtnhafphgkipldaaGreatDoor
