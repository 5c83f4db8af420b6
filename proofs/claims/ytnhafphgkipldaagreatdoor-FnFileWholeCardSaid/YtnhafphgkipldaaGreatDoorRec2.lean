/- The records of an object file: made out of their fields. Conditions: each field is of its kind. -/
import Derived.Test.YtnhafphgkipldaaGreatDoorRec
import Derived.Deep.RegionHeld3
namespace Go.Proofs.YtnhafphgkipldaaGreatDoor
open Go Go.RowKit

/-- A new block that holds just these bytes. -/
def NewB (T : TypeId) (w : World) (s : By) (e : Ending) (w' : World) : Prop := ∃ g, e = .returned (.pointer (some ⟨g, 0, none⟩)) ∧ w.heap.size ≤ g ∧ Blk w' g T (Lib.byteCells s).toArray ∧ Fr [] w w'

set_option maxHeartbeats 400000 in
theorem ref_any (r : Ref) (w : World) : Calls Tryz.prog 60 #[.agg r.cells.toArray] w fun e w' => e = .returned (.agg r.cells.toArray) ∧ Fr [] w w' := by
  obtain ⟨a, b⟩ := r
  simp only [Ref.cells]
  go_enter Tryz.func60, Tryz.ntmps60
  go_wp2
  exact bodyPost_ret (v := .agg #[.int .u32 a, .int .u32 b]) (by simp [results, Tryz.results60, go_sem]) rfl ⟨rfl, ((Fr.refl [] w).alloc _).alloc _⟩

theorem Fr.cells1 {S : List Nat} {w w' : World} (h : Fr S w w') {g : Nat} {T : TypeId} {cs : Array Value} (hS : g ∉ S) (hb : Blk w g T cs) (i : Nat) (v : Value) (hi : cs[i]? = some v) : w'.cell? ⟨g, i, none⟩ = some v := by
  rw [(h.blk hS hb).cell]; exact hi
/-- Two new blocks. -/
theorem two_new (w : World) (T1 T2 : TypeId) (c1 c2 : Array Value) (S : List Nat) : Blk ((w.alloc (.cells c1 T1)).alloc (.cells c2 T2)) w.heap.size T1 c1 ∧ Blk ((w.alloc (.cells c1 T1)).alloc (.cells c2 T2)) (w.heap.size + 1) T2 c2 ∧
    Fr S w ((w.alloc (.cells c1 T1)).alloc (.cells c2 T2)) := by
  refine ⟨(Blk.new w T1 c1).alloc _, ?_, ((Fr.refl _ _).alloc _).alloc _⟩
  have := Blk.new (w.alloc (.cells c1 T1)) T2 c2
  simpa using this

theorem not1 (n : Nat) : n ∉ [n + 1] := by simp
theorem Fr.new1 {w w1 : World} (h : Fr [w.heap.size + 1] w w1) : Fr [] w w1 := h.mono (by simp)
theorem u8v {x : Int} (h : u8ok x) : x % 256 = x := by unfold u8ok at h; omega

set_option maxHeartbeats 1600000 in
set_option maxRecDepth 100000 in
theorem sym_go (a k f f2 z al : Int) (w : World) (ha : u16ok a) (hz : u32ok z) (hal : u32ok al) :
    Calls Tryz.prog 108 #[.agg #[.int .u16 a, .int .u8 k, .int .u8 f, .int .u8 f2, .int .u32 z, .int .u32 al]] w fun e w' => e = .returned (.pointer (some ⟨w.heap.size + 1, 0, none⟩)) ∧ Fr [] w w' ∧
      Blk w' (w.heap.size + 1) 212 (([.int .u8 0, .int .u8 0, .int .u8 0, .int .u8 0, .int .u8 0, .int .u8 0, .int .u8 0, .int .u8 0] : List Value) ++ Lib.byteCells (le2 a) ++ [Value.int .u8 k, Value.int .u8 f, Value.int .u8 f2] ++ Lib.byteCells (le4 z) ++ Lib.byteCells (le4 al)).toArray := by
  have HA := Lib.hid ha; have HZ := Lib.hid hz; have HL := Lib.hid hal
  clear ha hz hal
  obtain ⟨k1, k2, k3⟩ := two_new w 47 212 #[.int .u16 a, .int .u8 k, .int .u8 f, .int .u8 f2, .int .u32 z, .int .u32 al] #[.int .u8 0, .int .u8 0, .int .u8 0, .int .u8 0, .int .u8 0, .int .u8 0, .int .u8 0, .int .u8 0, .int .u8 0, .int .u8 0, .int .u8 0, .int .u8 0, .int .u8 0, .int .u8 0, .int .u8 0, .int .u8 0, .int .u8 0, .int .u8 0, .int .u8 0, .int .u8 0, .int .u8 0] [w.heap.size + 1]
  have N := not1 w.heap.size
  have K1 := Lib.hid k1; have K2 := Lib.hid k2; have K3 := Lib.hid k3
  clear k1 k2 k3
  go_enter Tryz.func108, Tryz.ntmps108
  go_wp2_with fail
  refine (setABI_any _ ([.int .u8 0, .int .u8 0, .int .u8 0, .int .u8 0, .int .u8 0, .int .u8 0, .int .u8 0, .int .u8 0]) ([.int .u8 0, .int .u8 0, .int .u8 0, .int .u8 0, .int .u8 0, .int .u8 0, .int .u8 0, .int .u8 0, .int .u8 0, .int .u8 0, .int .u8 0]) _ _ a _ HA.out rfl K2.out).mono ?_
  rintro e w1 ⟨rfl, hb, hf⟩
  have c := hf.cells1 N K1.out 1 _ rfl
  have B1 := Lib.hid hb; have F1 := Lib.hid hf
  clear hb hf K2
  go_wp2_with fail
  refine (symSetType_any _ ([.int .u8 0, .int .u8 0, .int .u8 0, .int .u8 0, .int .u8 0, .int .u8 0, .int .u8 0, .int .u8 0] ++ Lib.byteCells (le2 a)) ([.int .u8 0, .int .u8 0, .int .u8 0, .int .u8 0, .int .u8 0, .int .u8 0, .int .u8 0, .int .u8 0, .int .u8 0, .int .u8 0]) _ k _ rfl B1.out).mono ?_
  clear c
  rintro e w2 ⟨rfl, hb, hf⟩
  have c := (F1.out.trans hf).cells1 N K1.out 2 _ rfl
  have B2 := Lib.hid hb; have F2 := Lib.hid (F1.out.trans hf)
  clear hb hf B1 F1
  go_wp2_with fail
  refine (symSetFlag_any _ ([.int .u8 0, .int .u8 0, .int .u8 0, .int .u8 0, .int .u8 0, .int .u8 0, .int .u8 0, .int .u8 0] ++ Lib.byteCells (le2 a) ++ [.int .u8 k]) ([.int .u8 0, .int .u8 0, .int .u8 0, .int .u8 0, .int .u8 0, .int .u8 0, .int .u8 0, .int .u8 0, .int .u8 0]) _ f _ rfl (by simpa using B2.out)).mono ?_
  clear c
  rintro e w3 ⟨rfl, hb, hf⟩
  have c := (F2.out.trans hf).cells1 N K1.out 3 _ rfl
  have B3 := Lib.hid hb; have F3 := Lib.hid (F2.out.trans hf)
  clear hb hf B2 F2
  go_wp2_with fail
  refine (symSetFlag2_any _ ([.int .u8 0, .int .u8 0, .int .u8 0, .int .u8 0, .int .u8 0, .int .u8 0, .int .u8 0, .int .u8 0] ++ Lib.byteCells (le2 a) ++ [.int .u8 k, .int .u8 f]) ([.int .u8 0, .int .u8 0, .int .u8 0, .int .u8 0, .int .u8 0, .int .u8 0, .int .u8 0, .int .u8 0]) _ f2 _ rfl (by simpa using B3.out)).mono ?_
  clear c
  rintro e w4 ⟨rfl, hb, hf⟩
  have c := (F3.out.trans hf).cells1 N K1.out 4 _ rfl
  have B4 := Lib.hid hb; have F4 := Lib.hid (F3.out.trans hf)
  clear hb hf B3 F3
  go_wp2_with fail
  refine (setSiz_any _ ([.int .u8 0, .int .u8 0, .int .u8 0, .int .u8 0, .int .u8 0, .int .u8 0, .int .u8 0, .int .u8 0] ++ Lib.byteCells (le2 a) ++ [.int .u8 k, .int .u8 f, .int .u8 f2]) ([.int .u8 0, .int .u8 0, .int .u8 0, .int .u8 0]) _ _ _ _ z _ HZ.out rfl (by simpa using B4.out)).mono ?_
  clear c
  rintro e w5 ⟨rfl, hb, hf⟩
  have c := (F4.out.trans hf).cells1 N K1.out 5 _ rfl
  have B5 := Lib.hid hb; have F5 := Lib.hid (F4.out.trans hf)
  clear hb hf B4 F4
  go_wp2_with fail
  refine (setAlign_any _ ([.int .u8 0, .int .u8 0, .int .u8 0, .int .u8 0, .int .u8 0, .int .u8 0, .int .u8 0, .int .u8 0] ++ Lib.byteCells (le2 a) ++ [.int .u8 k, .int .u8 f, .int .u8 f2] ++ Lib.byteCells (le4 z)) [] _ _ _ _ al _ HL.out rfl (by simpa using B5.out)).mono ?_
  clear c
  rintro e w6 ⟨rfl, hb, hf⟩
  have B6 := Lib.hid hb; have F6 := Lib.hid (F5.out.trans hf)
  clear hb hf B5 F5
  go_wp2
  go_ret
  exact ⟨rfl, (K3.out.trans F6.out).new1, by simpa using B6.out⟩

theorem sym_any (s : Sy) (w : World) (hs : s.ok) : Calls Tryz.prog 108 #[.agg s.cells.toArray] w (NewB 212 w ([0, 0, 0, 0, 0, 0, 0, 0] ++ s.enc)) := by
  obtain ⟨a, k, f, f2, z, al⟩ := s
  obtain ⟨ha, hk, hf, hf2, hz, hal⟩ := hs
  refine (sym_go a k f f2 z al w ha hz hal).mono ?_
  rintro e w' ⟨rfl, hF, hB⟩
  refine ⟨_, rfl, by omega, ?_, hF⟩
  simp only [Sy.enc, bc_app] at *
  have e3 : Lib.byteCells [b8 k, b8 f, b8 f2] = [.int .u8 k, .int .u8 f, .int .u8 f2] := by simp only [Lib.byteCells, List.map_cons, List.map_nil, b8_val, u8v hk, u8v hf, u8v hf2]
  rw [e3]
  have e8 : Lib.byteCells [0, 0, 0, 0, 0, 0, 0, 0] = [.int .u8 0, .int .u8 0, .int .u8 0, .int .u8 0, .int .u8 0, .int .u8 0, .int .u8 0, .int .u8 0] := rfl
  rw [e8]
  simpa using hB

/-! ### Reloc -/
set_option maxHeartbeats 1600000 in
set_option maxRecDepth 100000 in
theorem relSet_any (g : Nat) (r : Rel) (w : World) (hr : r.ok) (hb : Blk w g 155 #[.int .u8 0, .int .u8 0, .int .u8 0, .int .u8 0, .int .u8 0, .int .u8 0, .int .u8 0, .int .u8 0, .int .u8 0, .int .u8 0, .int .u8 0, .int .u8 0, .int .u8 0, .int .u8 0, .int .u8 0, .int .u8 0, .int .u8 0, .int .u8 0, .int .u8 0, .int .u8 0, .int .u8 0, .int .u8 0, .int .u8 0]) :
    Calls Tryz.prog 155 #[.pointer (some ⟨g, 0, none⟩), .int .i32 r.off, .int .u8 r.size, .int .u16 r.kind, .int .i64 r.add, .agg r.ref.cells.toArray] w fun e w' => e = .returned (.tuple #[]) ∧ Blk w' g 155 (Lib.byteCells r.enc).toArray ∧ Fr [g] w w' := by
  obtain ⟨o, z, k, d, ⟨a, b⟩⟩ := r
  obtain ⟨ho, hz, hk, hd, hr⟩ := hr
  have HO := Lib.hid ho; have HZ := Lib.hid hz; have HK := Lib.hid hk; have HD := Lib.hid hd; have HR := Lib.hid hr
  have hne : w.heap.size ∉ [g] := by have := hb.lt; simp; omega
  have K1 := Lib.hid (Blk.new w 132 #[.int .u32 a, .int .u32 b])
  have K2 := Lib.hid (hb.alloc (.cells #[.int .u32 a, .int .u32 b] 132))
  have K3 := Lib.hid ((Fr.refl [g] w).alloc (.cells #[.int .u32 a, .int .u32 b] 132))
  clear ho hz hk hd hr hb
  simp only [Ref.cells, Rel.enc]
  go_enter Tryz.func155, Tryz.ntmps155
  go_wp2_with fail
  refine (relSetOff_any g [] [.int .u8 0, .int .u8 0, .int .u8 0, .int .u8 0, .int .u8 0, .int .u8 0, .int .u8 0, .int .u8 0, .int .u8 0, .int .u8 0, .int .u8 0, .int .u8 0, .int .u8 0, .int .u8 0, .int .u8 0, .int .u8 0, .int .u8 0, .int .u8 0, .int .u8 0] _ _ _ _ o _ HO.out rfl K2.out).mono ?_
  rintro e w1 ⟨rfl, hb, hf⟩
  have B1 := Lib.hid hb; have F1 := Lib.hid hf
  clear hb hf K2
  go_wp2_with fail
  refine (relSetSiz_any g (Lib.byteCells (le4 o)) [.int .u8 0, .int .u8 0, .int .u8 0, .int .u8 0, .int .u8 0, .int .u8 0, .int .u8 0, .int .u8 0, .int .u8 0, .int .u8 0, .int .u8 0, .int .u8 0, .int .u8 0, .int .u8 0, .int .u8 0, .int .u8 0, .int .u8 0, .int .u8 0] _ z _ rfl (by simpa using B1.out)).mono ?_
  rintro e w2 ⟨rfl, hb, hf⟩
  have B2 := Lib.hid hb; have F2 := Lib.hid (F1.out.trans hf)
  clear hb hf B1 F1
  go_wp2_with fail
  refine (relSetType_any g (Lib.byteCells (le4 o) ++ [.int .u8 z]) [.int .u8 0, .int .u8 0, .int .u8 0, .int .u8 0, .int .u8 0, .int .u8 0, .int .u8 0, .int .u8 0, .int .u8 0, .int .u8 0, .int .u8 0, .int .u8 0, .int .u8 0, .int .u8 0, .int .u8 0, .int .u8 0] _ _ k _ HK.out rfl (by simpa using B2.out)).mono ?_
  rintro e w3 ⟨rfl, hb, hf⟩
  have B3 := Lib.hid hb; have F3 := Lib.hid (F2.out.trans hf)
  clear hb hf B2 F2
  go_wp2_with fail
  refine (relSetAdd_any g (Lib.byteCells (le4 o) ++ [.int .u8 z] ++ Lib.byteCells (le2 k)) [.int .u8 0, .int .u8 0, .int .u8 0, .int .u8 0, .int .u8 0, .int .u8 0, .int .u8 0, .int .u8 0] _ _ _ _ _ _ _ _ d _ HD.out rfl (by simpa using B3.out)).mono ?_
  rintro e w4 ⟨rfl, hb, hf⟩
  have c0 := (F3.out.trans hf).cells1 hne K1.out 0 _ rfl
  have c1 := (F3.out.trans hf).cells1 hne K1.out 1 _ rfl
  have B4 := Lib.hid hb; have F4 := Lib.hid (F3.out.trans hf)
  clear hb hf B3 F3
  go_wp2_with fail
  refine (relSetSym_any g (Lib.byteCells (le4 o) ++ [.int .u8 z] ++ Lib.byteCells (le2 k) ++ Lib.byteCells (le8 d)) [] _ _ _ _ _ _ _ _ ⟨a, b⟩ _ HR.out rfl (by simpa using B4.out)).mono ?_
  clear c0 c1
  rintro e w5 ⟨rfl, hb, hf⟩
  have B5 := Lib.hid hb; have F5 := Lib.hid (F4.out.trans hf)
  clear hb hf B4 F4
  go_wp2
  go_end0
  refine ⟨rfl, ?_, K3.out.trans F5.out⟩
  have := B5.out
  simp only [bc_app, bc_b8 HZ.out]
  simpa using this

set_option maxHeartbeats 1600000 in
set_option maxRecDepth 100000 in
theorem reloc_any (r : Rel) (w : World) (hr : r.ok) : Calls Tryz.prog 115 #[.agg r.cells.toArray] w (NewB 155 w r.enc) := by
  obtain ⟨o, z, k, d, ⟨a, b⟩⟩ := r
  have HR := Lib.hid hr
  clear hr
  obtain ⟨k1, k2, k3⟩ := two_new w 157 155 #[.int .i32 o, .int .u8 z, .int .u16 k, .int .i64 d, .int .u32 a, .int .u32 b] #[.int .u8 0, .int .u8 0, .int .u8 0, .int .u8 0, .int .u8 0, .int .u8 0, .int .u8 0, .int .u8 0, .int .u8 0, .int .u8 0, .int .u8 0, .int .u8 0, .int .u8 0, .int .u8 0, .int .u8 0, .int .u8 0, .int .u8 0, .int .u8 0, .int .u8 0, .int .u8 0, .int .u8 0, .int .u8 0, .int .u8 0] [w.heap.size + 1]
  simp only [Rel.cells, NewB]
  go_enter Tryz.func115, Tryz.ntmps115
  go_wp2_with fail
  generalize ((w.alloc (.cells #[.int .i32 o, .int .u8 z, .int .u16 k, .int .i64 d, .int .u32 a, .int .u32 b] 157)).alloc (.cells #[.int .u8 0, .int .u8 0, .int .u8 0, .int .u8 0, .int .u8 0, .int .u8 0, .int .u8 0, .int .u8 0, .int .u8 0, .int .u8 0, .int .u8 0, .int .u8 0, .int .u8 0, .int .u8 0, .int .u8 0, .int .u8 0, .int .u8 0, .int .u8 0, .int .u8 0, .int .u8 0, .int .u8 0, .int .u8 0, .int .u8 0] 155)) = w2 at k1 k2 k3 ⊢
  have C0 : ∀ x, Fr [w.heap.size + 1] w2 x → x.cell? ⟨w.heap.size, 0, none⟩ = some (.int .i32 o) := fun x h => h.cells1 (not1 _) k1 0 _ rfl
  have C1 : ∀ x, Fr [w.heap.size + 1] w2 x → x.cell? ⟨w.heap.size, 1, none⟩ = some (.int .u8 z) := fun x h => h.cells1 (not1 _) k1 1 _ rfl
  have C2 : ∀ x, Fr [w.heap.size + 1] w2 x → x.cell? ⟨w.heap.size, 2, none⟩ = some (.int .u16 k) := fun x h => h.cells1 (not1 _) k1 2 _ rfl
  have C3 : ∀ x, Fr [w.heap.size + 1] w2 x → x.cell? ⟨w.heap.size, 3, none⟩ = some (.int .i64 d) := fun x h => h.cells1 (not1 _) k1 3 _ rfl
  have C4 : ∀ x, Fr [w.heap.size + 1] w2 x → x.cell? ⟨w.heap.size, 4, none⟩ = some (.int .u32 a) := fun x h => h.cells1 (not1 _) k1 4 _ rfl
  have C5 : ∀ x, Fr [w.heap.size + 1] w2 x → x.cell? ⟨w.heap.size, 5, none⟩ = some (.int .u32 b) := fun x h => h.cells1 (not1 _) k1 5 _ rfl
  have K2 := Lib.hid k2; have K3 := Lib.hid k3
  clear k1 k2 k3
  have R0 : Fr [] w2 w2.drew := (Fr.refl _ _).drew
  have R1 : Fr [w.heap.size + 1] w2 w2.drew := (Fr.refl _ _).drew
  go_region_held3 (fun x => Fr [w.heap.size + 1] w2 x) (assumption)
    (first | (go_at_call 60; refine (ref_any ⟨a, b⟩ _).mono ?_; rintro e w' ⟨rfl, hF⟩; have hK := Fr.trans (S := []) (a := w2) (by assumption) hF; have hK2 := hK.mono (S' := [w.heap.size + 1]) (by simp); clear hF)
           | (go_at_call 155; refine (relSet_any (w.heap.size + 1) ⟨o, z, k, d, ⟨a, b⟩⟩ _ HR.out (Fr.blk (S := []) (w := w2) (by assumption) (by simp) K2.out)).mono ?_; rintro e w' ⟨rfl, hB, hF⟩; have hK2 := Fr.trans (S := [w.heap.size + 1]) (a := w2) (by assumption) hF; have HB := Lib.hid hB; clear hB hF))
  have K4 := Lib.hid hK2
  clear hK hK2 R0 R1 C0 C1 C2 C3 C4 C5
  go_wp2
  go_ret
  exact ⟨_, rfl, by omega, HB.out, (K3.out.trans K4.out).new1⟩

/-! ### Aux, Flagged -/
set_option maxHeartbeats 1600000 in
set_option maxRecDepth 100000 in
theorem aux_any (r : Aux) (w : World) (hr : r.ok) : Calls Tryz.prog 117 #[.agg r.cells.toArray] w (NewB 163 w r.enc) := by
  obtain ⟨k, ⟨a, b⟩⟩ := r
  obtain ⟨hk, hr⟩ := hr
  have HR := Lib.hid hr; have HK := Lib.hid hk
  clear hr hk
  obtain ⟨k1, k2, k3⟩ := two_new w 165 163 #[.int .u8 k, .int .u32 a, .int .u32 b] #[.int .u8 0, .int .u8 0, .int .u8 0, .int .u8 0, .int .u8 0, .int .u8 0, .int .u8 0, .int .u8 0, .int .u8 0] [w.heap.size + 1]
  simp only [Aux.cells, NewB]
  go_enter Tryz.func117, Tryz.ntmps117
  go_wp2_with fail
  refine (auxSetType_any (w.heap.size + 1) [] [.int .u8 0, .int .u8 0, .int .u8 0, .int .u8 0, .int .u8 0, .int .u8 0, .int .u8 0, .int .u8 0] _ k _ rfl k2).mono ?_
  rintro e w1 ⟨rfl, hb, hf⟩
  have c1 := hf.cells1 (not1 _) k1 1 _ rfl
  have c2 := hf.cells1 (not1 _) k1 2 _ rfl
  have B1 := Lib.hid hb; have F1 := Lib.hid (k3.trans hf)
  clear k1 k2 k3 hb hf
  go_wp2_with fail
  refine (ref_any ⟨a, b⟩ _).mono ?_
  rintro e w2 ⟨rfl, hf⟩
  have B2 := Lib.hid (hf.blk (by simp) B1.out); have F2 := Lib.hid (F1.out.trans (hf.mono (S' := [w.heap.size + 1]) (by simp)))
  clear hf B1 F1 c1 c2
  go_wp2_with fail
  refine (auxSetSym_any (w.heap.size + 1) [.int .u8 k] [] _ _ _ _ _ _ _ _ ⟨a, b⟩ _ HR.out rfl (by simpa using B2.out)).mono ?_
  rintro e w3 ⟨rfl, hb, hf⟩
  have B3 := Lib.hid hb; have F3 := Lib.hid (F2.out.trans hf)
  clear hb hf B2 F2
  go_wp2
  go_ret
  refine ⟨_, rfl, by omega, ?_, F3.out.new1⟩
  have := B3.out
  simp only [Aux.enc, bc_app, bc_b8 HK.out]
  simpa using this

set_option maxHeartbeats 1600000 in
set_option maxRecDepth 100000 in
theorem flags_any (r : Flg) (w : World) (hr : r.ok) : Calls Tryz.prog 54 #[.agg r.cells.toArray] w (NewB 189 w r.enc) := by
  obtain ⟨⟨a, b⟩, f, f2⟩ := r
  obtain ⟨hr, hf, hf2⟩ := hr
  have HR := Lib.hid hr; have HF := Lib.hid hf; have HG := Lib.hid hf2
  clear hr hf hf2
  obtain ⟨k1, k2, k3⟩ := two_new w 92 189 #[.int .u32 a, .int .u32 b, .int .u8 f, .int .u8 f2] #[.int .u8 0, .int .u8 0, .int .u8 0, .int .u8 0, .int .u8 0, .int .u8 0, .int .u8 0, .int .u8 0, .int .u8 0, .int .u8 0] [w.heap.size + 1]
  have C2 : ∀ x, Fr [w.heap.size + 1] w x → x.cell? ⟨w.heap.size, 2, none⟩ = x.cell? ⟨w.heap.size, 2, none⟩ := fun _ _ => rfl
  clear C2
  simp only [Flg.cells, NewB]
  go_enter Tryz.func54, Tryz.ntmps54
  go_wp2_with fail
  refine (ref_any ⟨a, b⟩ _).mono ?_
  rintro e w1 ⟨rfl, hf⟩
  have K1 := Lib.hid (hf.blk (by simp) k1)
  have B1 := Lib.hid (hf.blk (by simp) k2); have F1 := Lib.hid (k3.trans (hf.mono (S' := [w.heap.size + 1]) (by simp)))
  clear hf k1 k2 k3
  go_wp2_with fail
  refine (flgSetSym_any (w.heap.size + 1) [] [.int .u8 0, .int .u8 0] _ _ _ _ _ _ _ _ ⟨a, b⟩ _ HR.out rfl (by simpa using B1.out)).mono ?_
  rintro e w2 ⟨rfl, hb, hf⟩
  have c2 := hf.cells1 (not1 _) K1.out 2 _ rfl
  have K2 := Lib.hid (hf.blk (not1 _) K1.out)
  have B2 := Lib.hid hb; have F2 := Lib.hid (F1.out.trans hf)
  clear hb hf B1 F1 K1
  go_wp2_with fail
  refine (flgSetFlag_any (w.heap.size + 1) (Lib.byteCells (Ref.enc ⟨a, b⟩)) [.int .u8 0] _ f _ rfl (by simpa using B2.out)).mono ?_
  clear c2
  rintro e w3 ⟨rfl, hb, hf⟩
  have c3 := hf.cells1 (not1 _) K2.out 3 _ rfl
  have B3 := Lib.hid hb; have F3 := Lib.hid (F2.out.trans hf)
  clear hb hf B2 F2 K2
  go_wp2_with fail
  refine (flgSetFlag2_any (w.heap.size + 1) (Lib.byteCells (Ref.enc ⟨a, b⟩) ++ [.int .u8 f]) [] _ f2 _ rfl (by simpa using B3.out)).mono ?_
  clear c3
  rintro e w4 ⟨rfl, hb, hf⟩
  have B4 := Lib.hid hb; have F4 := Lib.hid (F3.out.trans hf)
  clear hb hf B3 F3
  go_wp2
  go_ret
  refine ⟨_, rfl, by omega, ?_, F4.out.new1⟩
  have := B4.out
  have e2 : Lib.byteCells [b8 f, b8 f2] = [.int .u8 f, .int .u8 f2] := by simp only [Lib.byteCells, List.map_cons, List.map_nil, b8_val, u8v HF.out, u8v HG.out]
  simp only [Flg.enc, bc_app, e2]
  simpa using this
end Go.Proofs.YtnhafphgkipldaaGreatDoor
