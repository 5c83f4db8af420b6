/- The reader's records told whole, as structs. Printed by gen_rd4.py. Conditions: the bytes lie there. -/
import Derived.Test.YtnhafphgkipldaaGreatDoorRd3
namespace Go.Proofs.YtnhafphgkipldaaGreatDoor
open Go Go.RowKit

set_option maxHeartbeats 1600000 in
set_option maxRecDepth 100000 in
theorem toldSym_any (b o : Nat) (s : Sy) (w : World) (hs : s.ok) (hc : Cs w b (o + 8) (Lib.byteCells s.enc)) :
    Calls Tryz.prog 85 #[.pointer (some ⟨b, o, none⟩)] w fun e w' => e = .returned (.agg s.cells.toArray) ∧ Fr [] w w' := by
  have B0 := Blk.new w 47 #[Value.int .u16 0, .int .u8 0, .int .u8 0, .int .u8 0, .int .u32 0, .int .u32 0]
  have F0 := (Fr.refl [] w).alloc (.cells #[Value.int .u16 0, .int .u8 0, .int .u8 0, .int .u8 0, .int .u32 0, .int .u32 0] 47)
  have HP := Lib.hid (sy_parts hs (F0.cs (by simp) hc))
  have HS := Lib.hid hs
  clear hc hs
  go_enter Tryz.func85, Tryz.ntmps85
  go_wp2_with fail
  generalize w.alloc (.cells #[Value.int .u16 0, .int .u8 0, .int .u8 0, .int .u8 0, .int .u32 0, .int .u32 0] 47) = w1 at B0 F0 HP ⊢
  have G0 := Lib.hid (Fr.refl [] w1)
  have HB := Lib.hid B0; have HF := Lib.hid F0
  clear B0 F0
  have q := symABI_any b o s.abi w1 HS.out.1 ((G0.out.cs (by simp) HP.out.1))
  refine (q.mono fun _ _ h => toFr h).mono ?_
  clear q
  rintro e x0 ⟨rfl, f⟩
  have G1 := Lib.hid (G0.out.trans f)
  clear f G0
  go_wp2_with fail
  have q := symKind_any b o s.kind x0 ((G1.out.cell (by simp) HP.out.2.1))
  refine (q.mono fun _ _ h => toFr0 h).mono ?_
  clear q
  rintro e x1 ⟨rfl, f⟩
  have G2 := Lib.hid (G1.out.trans f)
  clear f G1
  go_wp2_with fail
  have q := symFlag_any b o s.flag x1 ((G2.out.cell (by simp) HP.out.2.2.1))
  refine (q.mono fun _ _ h => toFr0 h).mono ?_
  clear q
  rintro e x2 ⟨rfl, f⟩
  have G3 := Lib.hid (G2.out.trans f)
  clear f G2
  go_wp2_with fail
  have q := symFlag2_any b o s.flag2 x2 ((G3.out.cell (by simp) HP.out.2.2.2.1))
  refine (q.mono fun _ _ h => toFr0 h).mono ?_
  clear q
  rintro e x3 ⟨rfl, f⟩
  have G4 := Lib.hid (G3.out.trans f)
  clear f G3
  go_wp2_with fail
  have q := symSize_any b o s.size x3 HS.out.2.2.2.2.1 ((G4.out.cs (by simp) HP.out.2.2.2.2.1))
  refine (q.mono fun _ _ h => toFr h).mono ?_
  clear q
  rintro e x4 ⟨rfl, f⟩
  have G5 := Lib.hid (G4.out.trans f)
  clear f G4
  go_wp2_with fail
  have q := symAlign_any b o s.align x4 HS.out.2.2.2.2.2 ((G5.out.cs (by simp) HP.out.2.2.2.2.2))
  refine (q.mono fun _ _ h => toFr h).mono ?_
  clear q
  rintro e x5 ⟨rfl, f⟩
  have G6 := Lib.hid (G5.out.trans f)
  clear f G5
  go_wp2_with ((with_reducible refine selS 47 ?_); go_must (refine wpList_store_all _ rfl 47 _ _ rfl _ 47 _ s.cells rfl rfl (Tryz.sizeOf47 _) (G6.out.blk (by simp) HB.out) rfl (by intro v hv; simp only [Sy.cells, List.mem_cons, List.not_mem_nil, or_false] at hv; rcases hv with rfl | rfl | rfl | rfl | rfl | rfl <;> rfl) ?_; intro w3 hb3 hf3; refine Hid.out ?_))
  refine Lib.hid ?_
  have HC := Lib.hid hb3.all
  have HH := Lib.hid (((HF.out.trans G6.out).mono (S' := [w.heap.size]) (by simp)).trans hf3 |>.mono (S' := []) (by simp))
  clear hb3 hf3
  go_wp2_with fail
  exact bodyPost_ret (results_cell _ 2 47 rfl _ w.heap.size 0 rfl _ s.cells (Tryz.isAgg47 _) (Tryz.sizeOf47 _) (by have := HC.out; simpa using this)) rfl ⟨rfl, HH.out⟩

set_option maxHeartbeats 1600000 in
set_option maxRecDepth 100000 in
theorem toldRel_any (b o : Nat) (s : Rel) (w : World) (hs : s.ok) (hc : Cs w b o (Lib.byteCells s.enc)) :
    Calls Tryz.prog 91 #[.pointer (some ⟨b, o, none⟩)] w fun e w' => e = .returned (.agg s.cells.toArray) ∧ Fr [] w w' := by
  have B0 := Blk.new w 157 #[Value.int .i32 0, .int .u8 0, .int .u16 0, .int .i64 0, .int .u32 0, .int .u32 0]
  have F0 := (Fr.refl [] w).alloc (.cells #[Value.int .i32 0, .int .u8 0, .int .u16 0, .int .i64 0, .int .u32 0, .int .u32 0] 157)
  have HP := Lib.hid (rel_parts hs (F0.cs (by simp) hc))
  have HS := Lib.hid hs
  clear hc hs
  go_enter Tryz.func91, Tryz.ntmps91
  go_wp2_with fail
  generalize w.alloc (.cells #[Value.int .i32 0, .int .u8 0, .int .u16 0, .int .i64 0, .int .u32 0, .int .u32 0] 157) = w1 at B0 F0 HP ⊢
  have G0 := Lib.hid (Fr.refl [] w1)
  have HB := Lib.hid B0; have HF := Lib.hid F0
  clear B0 F0
  have q := relOff_any b o s.off w1 HS.out.1 ((G0.out.cs (by simp) HP.out.1))
  refine (q.mono fun _ _ h => toFr h).mono ?_
  clear q
  rintro e x0 ⟨rfl, f⟩
  have G1 := Lib.hid (G0.out.trans f)
  clear f G0
  go_wp2_with fail
  have q := relSize_any b o s.size x0 ((G1.out.cell (by simp) HP.out.2.1))
  refine (q.mono fun _ _ h => toFr0 h).mono ?_
  clear q
  rintro e x1 ⟨rfl, f⟩
  have G2 := Lib.hid (G1.out.trans f)
  clear f G1
  go_wp2_with fail
  have q := relKind_any b o s.kind x1 HS.out.2.2.1 ((G2.out.cs (by simp) HP.out.2.2.1))
  refine (q.mono fun _ _ h => toFr h).mono ?_
  clear q
  rintro e x2 ⟨rfl, f⟩
  have G3 := Lib.hid (G2.out.trans f)
  clear f G2
  go_wp2_with fail
  have q := relAdd_any b o s.add x2 HS.out.2.2.2.1 ((G3.out.cs (by simp) HP.out.2.2.2.1))
  refine (q.mono fun _ _ h => toFr h).mono ?_
  clear q
  rintro e x3 ⟨rfl, f⟩
  have G4 := Lib.hid (G3.out.trans f)
  clear f G3
  go_wp2_with fail
  have q := relRef_any b o s.ref.pkg s.ref.sym x3 HS.out.2.2.2.2.1 HS.out.2.2.2.2.2 ((G4.out.cs (by simp) HP.out.2.2.2.2.1)) ((G4.out.cs (by simp) HP.out.2.2.2.2.2))
  refine q.mono ?_
  clear q
  rintro e x4 ⟨rfl, f⟩
  have G5 := Lib.hid (G4.out.trans f)
  clear f G4
  go_wp2_with fail
  have q := told_any s.ref.pkg s.ref.sym x4
  refine q.mono ?_
  clear q
  rintro e x5 ⟨rfl, f⟩
  have G6 := Lib.hid (G5.out.trans f)
  clear f G5
  go_wp2_with ((with_reducible refine selS 157 ?_); go_must (refine wpList_store_all _ rfl 157 _ _ rfl _ 157 _ s.cells rfl rfl (Tryz.sizeOf157 _) (G6.out.blk (by simp) HB.out) rfl (by intro v hv; simp only [Rel.cells, List.mem_cons, List.not_mem_nil, or_false] at hv; rcases hv with rfl | rfl | rfl | rfl | rfl | rfl <;> rfl) ?_; intro w3 hb3 hf3; refine Hid.out ?_))
  refine Lib.hid ?_
  have HC := Lib.hid hb3.all
  have HH := Lib.hid (((HF.out.trans G6.out).mono (S' := [w.heap.size]) (by simp)).trans hf3 |>.mono (S' := []) (by simp))
  clear hb3 hf3
  go_wp2_with fail
  exact bodyPost_ret (results_cell _ 2 157 rfl _ w.heap.size 0 rfl _ s.cells (Tryz.isAgg157 _) (Tryz.sizeOf157 _) (by have := HC.out; simpa using this)) rfl ⟨rfl, HH.out⟩

set_option maxHeartbeats 1600000 in
set_option maxRecDepth 100000 in
theorem toldAux_any (b o : Nat) (s : Aux) (w : World) (hs : s.ok) (hc : Cs w b o (Lib.byteCells s.enc)) :
    Calls Tryz.prog 93 #[.pointer (some ⟨b, o, none⟩)] w fun e w' => e = .returned (.agg s.cells.toArray) ∧ Fr [] w w' := by
  have B0 := Blk.new w 165 #[Value.int .u8 0, .int .u32 0, .int .u32 0]
  have F0 := (Fr.refl [] w).alloc (.cells #[Value.int .u8 0, .int .u32 0, .int .u32 0] 165)
  have HP := Lib.hid (aux_parts hs (F0.cs (by simp) hc))
  have HS := Lib.hid hs
  clear hc hs
  go_enter Tryz.func93, Tryz.ntmps93
  go_wp2_with fail
  generalize w.alloc (.cells #[Value.int .u8 0, .int .u32 0, .int .u32 0] 165) = w1 at B0 F0 HP ⊢
  have G0 := Lib.hid (Fr.refl [] w1)
  have HB := Lib.hid B0; have HF := Lib.hid F0
  clear B0 F0
  have q := auxKind_any b o s.kind w1 ((G0.out.cell (by simp) HP.out.1))
  refine (q.mono fun _ _ h => toFr0 h).mono ?_
  clear q
  rintro e x0 ⟨rfl, f⟩
  have G1 := Lib.hid (G0.out.trans f)
  clear f G0
  go_wp2_with fail
  have q := auxRef_any b o s.ref.pkg s.ref.sym x0 HS.out.2.1 HS.out.2.2 ((G1.out.cs (by simp) HP.out.2.1)) ((G1.out.cs (by simp) HP.out.2.2))
  refine q.mono ?_
  clear q
  rintro e x1 ⟨rfl, f⟩
  have G2 := Lib.hid (G1.out.trans f)
  clear f G1
  go_wp2_with fail
  have q := told_any s.ref.pkg s.ref.sym x1
  refine q.mono ?_
  clear q
  rintro e x2 ⟨rfl, f⟩
  have G3 := Lib.hid (G2.out.trans f)
  clear f G2
  go_wp2_with ((with_reducible refine selS 165 ?_); go_must (refine wpList_store_all _ rfl 165 _ _ rfl _ 165 _ s.cells rfl rfl (Tryz.sizeOf165 _) (G3.out.blk (by simp) HB.out) rfl (by intro v hv; simp only [Aux.cells, List.mem_cons, List.not_mem_nil, or_false] at hv; rcases hv with rfl | rfl | rfl <;> rfl) ?_; intro w3 hb3 hf3; refine Hid.out ?_))
  refine Lib.hid ?_
  have HC := Lib.hid hb3.all
  have HH := Lib.hid (((HF.out.trans G3.out).mono (S' := [w.heap.size]) (by simp)).trans hf3 |>.mono (S' := []) (by simp))
  clear hb3 hf3
  go_wp2_with fail
  exact bodyPost_ret (results_cell _ 2 165 rfl _ w.heap.size 0 rfl _ s.cells (Tryz.isAgg165 _) (Tryz.sizeOf165 _) (by have := HC.out; simpa using this)) rfl ⟨rfl, HH.out⟩

set_option maxHeartbeats 1600000 in
set_option maxRecDepth 100000 in
theorem toldFlg_any (b o : Nat) (s : Flg) (w : World) (hs : s.ok) (hc : Cs w b o (Lib.byteCells s.enc)) :
    Calls Tryz.prog 94 #[.pointer (some ⟨b, o, none⟩)] w fun e w' => e = .returned (.agg s.cells.toArray) ∧ Fr [] w w' := by
  have B0 := Blk.new w 92 #[Value.int .u32 0, .int .u32 0, .int .u8 0, .int .u8 0]
  have F0 := (Fr.refl [] w).alloc (.cells #[Value.int .u32 0, .int .u32 0, .int .u8 0, .int .u8 0] 92)
  have HP := Lib.hid (flg_parts hs (F0.cs (by simp) hc))
  have HS := Lib.hid hs
  clear hc hs
  go_enter Tryz.func94, Tryz.ntmps94
  go_wp2_with fail
  generalize w.alloc (.cells #[Value.int .u32 0, .int .u32 0, .int .u8 0, .int .u8 0] 92) = w1 at B0 F0 HP ⊢
  have G0 := Lib.hid (Fr.refl [] w1)
  have HB := Lib.hid B0; have HF := Lib.hid F0
  clear B0 F0
  have q := flgRef_any b o s.ref.pkg s.ref.sym w1 HS.out.1.1 HS.out.1.2 ((G0.out.cs (by simp) HP.out.1)) ((G0.out.cs (by simp) HP.out.2.1))
  refine q.mono ?_
  clear q
  rintro e x0 ⟨rfl, f⟩
  have G1 := Lib.hid (G0.out.trans f)
  clear f G0
  go_wp2_with fail
  have q := told_any s.ref.pkg s.ref.sym x0
  refine q.mono ?_
  clear q
  rintro e x1 ⟨rfl, f⟩
  have G2 := Lib.hid (G1.out.trans f)
  clear f G1
  go_wp2_with fail
  have q := flgFlag_any b o s.flag x1 ((G2.out.cell (by simp) HP.out.2.2.1))
  refine (q.mono fun _ _ h => toFr0 h).mono ?_
  clear q
  rintro e x2 ⟨rfl, f⟩
  have G3 := Lib.hid (G2.out.trans f)
  clear f G2
  go_wp2_with fail
  have q := flgFlag2_any b o s.flag2 x2 ((G3.out.cell (by simp) HP.out.2.2.2))
  refine (q.mono fun _ _ h => toFr0 h).mono ?_
  clear q
  rintro e x3 ⟨rfl, f⟩
  have G4 := Lib.hid (G3.out.trans f)
  clear f G3
  go_wp2_with ((with_reducible refine selS 92 ?_); go_must (refine wpList_store_all _ rfl 92 _ _ rfl _ 92 _ s.cells rfl rfl (Tryz.sizeOf92 _) (G4.out.blk (by simp) HB.out) rfl (by intro v hv; simp only [Flg.cells, List.mem_cons, List.not_mem_nil, or_false] at hv; rcases hv with rfl | rfl | rfl | rfl <;> rfl) ?_; intro w3 hb3 hf3; refine Hid.out ?_))
  refine Lib.hid ?_
  have HC := Lib.hid hb3.all
  have HH := Lib.hid (((HF.out.trans G4.out).mono (S' := [w.heap.size]) (by simp)).trans hf3 |>.mono (S' := []) (by simp))
  clear hb3 hf3
  go_wp2_with fail
  exact bodyPost_ret (results_cell _ 2 92 rfl _ w.heap.size 0 rfl _ s.cells (Tryz.isAgg92 _) (Tryz.sizeOf92 _) (by have := HC.out; simpa using this)) rfl ⟨rfl, HH.out⟩

end Go.Proofs.YtnhafphgkipldaaGreatDoor
