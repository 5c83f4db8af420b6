/- The contracts of the writer's methods. Conditions: the bytes written stay below 2^31. -/
import Derived.Test.YtnhafphgkipldaaGreatDoorWr
namespace Go.Proofs.YtnhafphgkipldaaGreatDoor
open Go Go.RowKit

set_option maxHeartbeats 400000 in
theorem offset_any (i : WId) (w : World) (l : By) (M : Tab) (h : Wr i w l M) :
    Calls Tryz.prog 50 #[.pointer (some ⟨i.wb, 0, none⟩)] w fun e w' => e = .returned (.int .u32 l.length) ∧ w = w' := by
  obtain ⟨c0, c1, c2, f2⟩ := h.cells
  go_enter Tryz.func50, Tryz.ntmps50
  go_wp2
  go_ret
  exact ⟨rfl, rfl⟩

set_option maxHeartbeats 400000 in
theorem rawString_any (i : WId) (w : World) (l : By) (M : Tab) (s : ByteArray) (h : Wr i w l M) (hn : l.length + s.size < 2147483648) :
    Calls Tryz.prog 45 #[.pointer (some ⟨i.wb, 0, none⟩), .string s] w (WPost i w (l ++ s.data.toList) M) := by
  obtain ⟨c0, c1, c2, f2⟩ := h.cells
  have HH := Lib.hid h
  clear h
  go_enter Tryz.func45, Tryz.ntmps45
  go_wp2_with fail
  refine (Tryz.Buffer_WriteString_kept i.B i.bb _ s _ HH.out.2.1 HH.out.size (bc_one l) (by rw [bc_len]; omega)).mono ?_
  rintro e w1 ⟨rfl, hB, hb, hk⟩
  obtain ⟨d2, g2⟩ := HH.out.count hk
  go_wp2
  go_end0
  obtain ⟨h1, h2⟩ := HH.out.wrote hB hb hk (by rw [str_len]; exact hn) _ (by rw [str_len])
  exact ⟨rfl, h1, h2⟩

set_option maxHeartbeats 400000 in
theorem bytes_any (i : WId) (w : World) (l s : By) (M : Tab) (a : Addr) (n c : Nat) (h : Wr i w l M) (hn : l.length + n < 2147483648) (hl : s.length = n) (ha : a.block ≠ i.bb)
    (hs : ∀ j v, (Lib.byteCells s)[j]? = some v → w.cell? (a.add j) = some v) :
    Calls Tryz.prog 46 #[.pointer (some ⟨i.wb, 0, none⟩), .slice (some a) n c] w (WPost i w (l ++ s) M) := by
  obtain ⟨c0, c1, c2, f2⟩ := h.cells
  have HH := Lib.hid h
  have HS := Lib.hid hs
  have HL := Lib.hid hl
  clear h hs hl
  go_enter Tryz.func46, Tryz.ntmps46
  go_wp2_with fail
  refine (Tryz.Buffer_Write_any i.B i.bb _ (Lib.byteCells s) a n c _ HH.out.2.1 HH.out.size (bc_one l) (by rw [bc_len, HL.out]) ha HS.out (bc_one s) (by rw [bc_len]; omega)).mono ?_
  rintro e w1 ⟨rfl, hB, hb, hk⟩
  obtain ⟨d2, g2⟩ := HH.out.count hk
  go_wp2
  go_end0
  obtain ⟨h1, h2⟩ := HH.out.wrote hB hb hk (by rw [HL.out]; exact hn) _ (by rw [HL.out])
  exact ⟨rfl, h1, h2⟩

set_option maxHeartbeats 400000 in
set_option maxRecDepth 100000 in
theorem uint32_any (i : WId) (w : World) (l : By) (M : Tab) (x : Int) (hx : 0 ≤ x) (hx2 : x < 4294967296) (h : Wr i w l M) (hn : l.length + 4 < 2147483648) :
    Calls Tryz.prog 47 #[.pointer (some ⟨i.wb, 0, none⟩), .int .u32 x] w (WPost i w (l ++ le4 x) M) := by
  obtain ⟨c0, c1, c2, f2⟩ := h.cells
  have HH := Lib.hid h
  clear h
  go_enter Tryz.func47, Tryz.ntmps47
  go_wp2_with fail
  obtain ⟨⟨sc, hsc, hb⟩, -⟩ := HH.out
  match sc, hsc with
  | [s0, s1, s2, s3, s4, s5, s6, s7], hsc =>
  refine (putLe32_any i.wb 3 4 8 113 [_, _, _] (Lib.byteCells [s4, s5, s6, s7]) _ _ _ _ x _ (by omega) hx hx2 rfl hb).mono ?_
  rintro e w1 ⟨rfl, hb1, hf1⟩
  obtain ⟨g1, g2⟩ := HH.out.scratch hf1 (le4 x ++ [s4, s5, s6, s7]) rfl (by simpa [wcells, bc_app] using hb1)
  obtain ⟨c0, c1, c2, f2⟩ := g1.cells
  have hcs := hb1.part (p := [.pointer (some ⟨i.bb, 0, none⟩), .map (some i.mb), .int .u32 l.length]) (s := Lib.byteCells (le4 x)) (q := Lib.byteCells [s4, s5, s6, s7]) rfl
  have G1 := Lib.hid g1
  have G2 := Lib.hid g2
  have G3 := Lib.hid hcs
  clear hb hb1 hf1 g1 g2 hcs
  go_wp2_with fail
  go_still_tail 8, (by kernel_rfl)
  change wpList _ _ _ _ _ w1.drew
  generalize hw2 : w1.drew = w2
  go_wp2_with fail
  have G1' : Wr i w2 l M := by rw [← hw2]; exact G1.out
  have G3' : Cs w2 i.wb 3 (Lib.byteCells (le4 x)) := by rw [← hw2]; exact G3.out
  have G2' : Fw i.B i.S w w2 := by rw [← hw2]; exact G2.out.drew
  clear hw2 G1 G2 G3
  have G1 := Lib.hid G1'
  have G2 := Lib.hid G2'
  have G3 := Lib.hid G3'
  refine (Tryz.Buffer_Write_any i.B i.bb _ (Lib.byteCells (le4 x)) ⟨i.wb, 3, none⟩ 4 8 _ G1'.2.1 G1'.size (bc_one l) rfl HH.out.ne.1 G3'.addr (bc_one _) (by rw [bc_len]; omega)).mono ?_
  clear G1' G2' G3'
  rintro e w3 ⟨rfl, hB, hb, hk⟩
  obtain ⟨d2, k2⟩ := G1.out.count hk
  go_wp2
  go_end0
  obtain ⟨h1, h2⟩ := G1.out.wrote hB hb hk (by rw [le4_len]; exact hn) _ (by rw [le4_len])
  exact ⟨rfl, h1, G2.out.trans h2⟩

set_option maxHeartbeats 400000 in
set_option maxRecDepth 100000 in
theorem uint64_any (i : WId) (w : World) (l : By) (M : Tab) (x : Int) (hx : 0 ≤ x) (hx2 : x < 18446744073709551616) (h : Wr i w l M) (hn : l.length + 8 < 2147483648) :
    Calls Tryz.prog 56 #[.pointer (some ⟨i.wb, 0, none⟩), .int .u64 x] w (WPost i w (l ++ le8 x) M) := by
  obtain ⟨c0, c1, c2, f2⟩ := h.cells
  have HH := Lib.hid h
  clear h
  go_enter Tryz.func56, Tryz.ntmps56
  go_wp2_with fail
  obtain ⟨⟨sc, hsc, hb⟩, -⟩ := HH.out
  match sc, hsc with
  | [s0, s1, s2, s3, s4, s5, s6, s7], hsc =>
  refine (putLe64_any i.wb 3 8 8 113 [_, _, _] [] _ _ _ _ _ _ _ _ x _ (by omega) (by omega) hx hx2 rfl hb).mono ?_
  rintro e w1 ⟨rfl, hb1, hf1⟩
  obtain ⟨g1, g2⟩ := HH.out.scratch hf1 (le8 x) rfl (by simpa [wcells, bc_app] using hb1)
  obtain ⟨c0, c1, c2, f2⟩ := g1.cells
  have hcs := hb1.part (p := [.pointer (some ⟨i.bb, 0, none⟩), .map (some i.mb), .int .u32 l.length]) (s := Lib.byteCells (le8 x)) (q := []) rfl
  have G1 := Lib.hid g1
  have G2 := Lib.hid g2
  have G3 := Lib.hid hcs
  clear hb hb1 hf1 g1 g2 hcs
  go_wp2_with fail
  go_still_tail 8, (by kernel_rfl)
  change wpList _ _ _ _ _ w1.drew
  generalize hw2 : w1.drew = w2
  go_wp2_with fail
  have G1' : Wr i w2 l M := by rw [← hw2]; exact G1.out
  have G3' : Cs w2 i.wb 3 (Lib.byteCells (le8 x)) := by rw [← hw2]; exact G3.out
  have G2' : Fw i.B i.S w w2 := by rw [← hw2]; exact G2.out.drew
  clear hw2 G1 G2 G3
  have G1 := Lib.hid G1'
  have G2 := Lib.hid G2'
  have G3 := Lib.hid G3'
  refine (Tryz.Buffer_Write_any i.B i.bb _ (Lib.byteCells (le8 x)) ⟨i.wb, 3, none⟩ 8 8 _ G1'.2.1 G1'.size (bc_one l) rfl HH.out.ne.1 G3'.addr (bc_one _) (by rw [bc_len]; omega)).mono ?_
  clear G1' G2' G3'
  rintro e w3 ⟨rfl, hB, hb, hk⟩
  obtain ⟨d2, k2⟩ := G1.out.count hk
  go_wp2
  go_end0
  obtain ⟨h1, h2⟩ := G1.out.wrote hB hb hk (by rw [le8_len]; exact hn) _ (by rw [le8_len])
  exact ⟨rfl, h1, G2.out.trans h2⟩

/-- A string is added: where it is known nothing turns; else it is written, and its place is kept. -/
def addS (st : By × Tab) (s : By) : By × Tab := match tlook st.2 s with
  | some _ => st
  | none => (st.1 ++ s, (s, (st.1.length : Int)) :: st.2)
theorem addS_hit {l : By} {M : Tab} {s : By} {o : Int} (h : tlook M s = some o) : addS (l, M) s = (l, M) := by simp [addS, h]
theorem addS_miss {l : By} {M : Tab} {s : By} (h : tlook M s = none) : addS (l, M) s = (l ++ s, (s, (l.length : Int)) :: M) := by simp [addS, h]

set_option maxHeartbeats 400000 in
theorem addString_hit (i : WId) (w : World) (l : By) (M : Tab) (s : ByteArray) (o : Int) (hs : s.size ≤ maxLen) (hl : tlook M s.data.toList = some o) (h : Wr i w l M) :
    Calls Tryz.prog 48 #[.pointer (some ⟨i.wb, 0, none⟩), .string s] w (WPost i w l M) := by
  obtain ⟨c0, c1, c2, f2⟩ := h.cells
  have hlk := h.2.2.1.look_some s hs o hl
  have HH := Lib.hid h
  clear h hl
  go_enter Tryz.func48, Tryz.ntmps48
  go_wp2
  refine bodyPost_ret (results_none rfl _ _ _) rfl ?_
  exact ⟨rfl, HH.out, Fw.refl _ _ _⟩

set_option maxHeartbeats 400000 in
set_option maxRecDepth 100000 in
theorem addString_miss (i : WId) (w : World) (l : By) (M : Tab) (s : ByteArray) (hM : M.length < maxLen) (hs : s.size ≤ maxLen) (hl : tlook M s.data.toList = none) (h : Wr i w l M) (hn : l.length + s.size < 2147483648) :
    Calls Tryz.prog 48 #[.pointer (some ⟨i.wb, 0, none⟩), .string s] w (WPost i w (l ++ s.data.toList) ((s.data.toList, (l.length : Int)) :: M)) := by
  obtain ⟨c0, c1, c2, f2⟩ := h.cells
  have hlk := h.2.2.1.look_none s hs hl
  have HH := Lib.hid h
  have HM := Lib.hid hM
  have HZ := Lib.hid hs
  clear h hl hM hs
  go_enter Tryz.func48, Tryz.ntmps48
  go_wp2
  go_still_tail 9, (by kernel_rfl)
  change wpList _ _ _ _ _ w.drew
  have hm0 : MapIs w.drew i.mb M := HH.out.2.2.1
  obtain ⟨w1, hrun, hm1, hf1⟩ := hm0.store s HZ.out l.length (by have := HH.out.2.2.2.2.2; omega) HM.out
  obtain ⟨g1, g2⟩ := Wr.tabbed (w := w.drew) HH.out hf1 hm1
  have G1 := Lib.hid g1
  have G2 := Lib.hid g2
  clear hm0 hm1 hf1 g1 g2
  go_wp2_with fail
  refine (rawString_any i w1 l _ s G1.out hn).mono ?_
  rintro e w2 ⟨rfl, h2, h3⟩
  have H2 := Lib.hid h2
  have H3 := Lib.hid h3
  clear h2 h3
  go_wp2
  go_end0
  exact ⟨rfl, H2.out, ((Fw.refl i.B i.S w).drew.trans G2.out).trans H3.out⟩

/-- AddString. -/
theorem addString_any (i : WId) (w : World) (l : By) (M : Tab) (s : ByteArray) (hM : M.length < 1000000) (hs : s.size ≤ 1000000) (h : Wr i w l M) (hn : l.length + s.size < 2147483648) :
    Calls Tryz.prog 48 #[.pointer (some ⟨i.wb, 0, none⟩), .string s] w (WPost i w (addS (l, M) s.data.toList).1 (addS (l, M) s.data.toList).2) := by
  have m0 : M.length < maxLen := by unfold maxLen; omega
  have s0 : s.size ≤ maxLen := by unfold maxLen; omega
  cases hl : tlook M s.data.toList with
  | some o => rw [addS_hit hl]; exact addString_hit i w l M s o s0 hl h
  | none => rw [addS_miss hl]; exact addString_miss i w l M s m0 s0 hl h hn

set_option maxHeartbeats 400000 in
theorem stringOff_any (i : WId) (w : World) (l : By) (M : Tab) (s : ByteArray) (o : Int) (hs : s.size ≤ 1000000) (hl : tlook M s.data.toList = some o) (h : Wr i w l M) :
    Calls Tryz.prog 107 #[.pointer (some ⟨i.wb, 0, none⟩), .string s] w fun e w' => e = .returned (.int .u32 o) ∧ w = w' := by
  obtain ⟨c0, c1, c2, f2⟩ := h.cells
  have hlk := h.2.2.1.look_some s (by unfold maxLen; omega) o hl
  have HH := Lib.hid h
  clear h hl
  go_enter Tryz.func107, Tryz.ntmps107
  go_wp2
  go_ret
  exact ⟨rfl, rfl⟩

set_option maxHeartbeats 400000 in
theorem stringRef_any (i : WId) (w : World) (l : By) (M : Tab) (s : ByteArray) (o : Int) (hs : s.size ≤ 1000000) (ho : 0 ≤ o ∧ o < 4294967296) (hl : tlook M s.data.toList = some o) (h : Wr i w l M) (hn : l.length + 8 < 2147483648) :
    Calls Tryz.prog 52 #[.pointer (some ⟨i.wb, 0, none⟩), .string s] w (WPost i w (l ++ le4 s.size ++ le4 o) M) := by
  have HH := Lib.hid h
  have HL := Lib.hid hl
  clear h hl
  obtain ⟨o0, o1⟩ := ho
  go_enter Tryz.func52, Tryz.ntmps52
  go_wp2_with fail
  refine (uint32_any i _ l M s.size (by omega) (by omega) HH.out (by omega)).mono ?_
  rintro e w1 ⟨rfl, h1, h2⟩
  have H1 := Lib.hid h1
  have H2 := Lib.hid h2
  clear h1 h2
  go_wp2_with fail
  refine (stringOff_any i _ _ M s o hs HL.out H1.out).mono ?_
  rintro e w' ⟨rfl, rfl⟩
  go_wp2_with fail
  refine (uint32_any i _ _ M o o0 o1 H1.out (by rw [List.length_append, le4_len]; omega)).mono ?_
  rintro e w2 ⟨rfl, h3, h4⟩
  have H3 := Lib.hid h3
  have H4 := Lib.hid h4
  clear h3 h4
  go_wp2
  go_end0
  exact ⟨rfl, H3.out, H2.out.trans H4.out⟩

set_option maxHeartbeats 400000 in
/-- NewWriter over a fresh buffer. -/
theorem newWriter_any (w : World) (B bb : Nat) (h : Lib.IsBuffer 69 5 B bb [] w) :
    Calls Tryz.prog 15 #[.pointer (some ⟨bb, 0, none⟩)] w fun e w' => ∃ i : WId, i.B = B ∧ i.bb = bb ∧ e = .returned (.pointer (some ⟨i.wb, 0, none⟩)) ∧ Wr i w' [] [] ∧ Fr [] w w' := by
  have hmm := @run_makeMap Tryz.prog
  have HH := Lib.hid h
  clear h
  go_enter Tryz.func15, Tryz.ntmps15
  go_wp2
  go_ret
  have h := HH.out
  have hlt := h.lt
  have hB := h.1
  have f : Fr [] w ((w.alloc (.map #[] 0)).alloc (.cells (wcells ⟨B, w.heap.size + 1, bb, w.heap.size⟩ 0 [0, 0, 0, 0, 0, 0, 0, 0]).toArray 113)) := ((Fr.refl [] w).alloc _).alloc _
  refine ⟨⟨B, w.heap.size + 1, bb, w.heap.size⟩, rfl, rfl, rfl, ⟨⟨[0, 0, 0, 0, 0, 0, 0, 0], rfl, ?_⟩, ?_, ?_, ?_, ?_, ?_⟩, f⟩
  · have := Blk.new (w.alloc (.map #[] 0)) 113 (wcells ⟨B, w.heap.size + 1, bb, w.heap.size⟩ 0 [0, 0, 0, 0, 0, 0, 0, 0]).toArray
    simpa [wcells, Lib.byteCells] using this
  · exact IsBuffer.keep h (f.block _ hlt (by simp)) (fun g c fz hg => f.block g (Lib.lt_of_heap hg) (by simp))
  · exact (MapIs.made w).keep (Below.heap_alloc _ _ _ (by simp))
  · show B ≤ w.heap.size + 1
    omega
  · show B ≤ w.heap.size
    omega
  · show 0 < 2147483648
    decide

end Go.Proofs.YtnhafphgkipldaaGreatDoor
