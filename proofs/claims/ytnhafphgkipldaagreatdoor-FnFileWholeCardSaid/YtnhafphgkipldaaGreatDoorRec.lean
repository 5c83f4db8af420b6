/- The records of an object file: set field by field. Conditions: each field is of its kind. -/
import Derived.Test.YtnhafphgkipldaaGreatDoorWm
namespace Go.Proofs.YtnhafphgkipldaaGreatDoor
open Go Go.RowKit

theorem bc_b8 {x : Int} (h : u8ok x) : Lib.byteCells [b8 x] = [.int .u8 x] := by
  have : x % 256 = x := by unfold u8ok at h; omega
  simp [Lib.byteCells, b8_val, this]

/-! ### Sym -/
set_option maxHeartbeats 400000 in
theorem setABI_any (g : Nat) (p q : List Value) (v0 v1 : Value) (x : Int) (w : World) (hx : u16ok x) (hp : p.length = 8) (hb : Blk w g 212 (p ++ v0 :: v1 :: q).toArray) :
    Calls Tryz.prog 149 #[.pointer (some ⟨g, 0, none⟩), .int .u16 x] w fun e w' => e = .returned (.tuple #[]) ∧ Blk w' g 212 (p ++ Lib.byteCells (le2 x) ++ q).toArray ∧ Fr [g] w w' := by
  obtain ⟨x0, x1⟩ := hx
  have HB := Lib.hid hb
  have HP := Lib.hid hp
  clear hb hp
  go_enter Tryz.func149, Tryz.ntmps149
  go_wp2_with fail
  refine (putLe16_any g 8 _ _ 212 p q v0 v1 x _ (by omega) x0 x1 HP.out.symm HB.out).mono ?_
  rintro e w1 ⟨rfl, hb1, hf1⟩
  go_wp2
  go_end0
  exact ⟨rfl, hb1, hf1⟩

set_option maxHeartbeats 400000 in
theorem symSetType_any (g : Nat) (p q : List Value) (v0 : Value) (x : Int) (w : World) (hp : p.length = 10) (hb : Blk w g 212 (p ++ v0 :: q).toArray) :
    Calls Tryz.prog 150 #[.pointer (some ⟨g, 0, none⟩), .int .u8 x] w fun e w' => e = .returned (.tuple #[]) ∧ Blk w' g 212 (p ++ .int .u8 x :: q).toArray ∧ Fr [g] w w' := by
  have c0 := hb.at 10 hp.symm
  have f0 := hb.frozen 10
  have k0 := hb.put 10 hp.symm (.int .u8 x)
  have HB := Lib.hid k0
  clear hb hp k0
  go_enter Tryz.func150, Tryz.ntmps150
  go_wp2
  go_end0
  exact ⟨rfl, HB.out, (Fr.refl [g] w).set (by simp) _⟩

set_option maxHeartbeats 400000 in
theorem symSetFlag_any (g : Nat) (p q : List Value) (v0 : Value) (x : Int) (w : World) (hp : p.length = 11) (hb : Blk w g 212 (p ++ v0 :: q).toArray) :
    Calls Tryz.prog 151 #[.pointer (some ⟨g, 0, none⟩), .int .u8 x] w fun e w' => e = .returned (.tuple #[]) ∧ Blk w' g 212 (p ++ .int .u8 x :: q).toArray ∧ Fr [g] w w' := by
  have c0 := hb.at 11 hp.symm
  have f0 := hb.frozen 11
  have k0 := hb.put 11 hp.symm (.int .u8 x)
  have HB := Lib.hid k0
  clear hb hp k0
  go_enter Tryz.func151, Tryz.ntmps151
  go_wp2
  go_end0
  exact ⟨rfl, HB.out, (Fr.refl [g] w).set (by simp) _⟩

set_option maxHeartbeats 400000 in
theorem symSetFlag2_any (g : Nat) (p q : List Value) (v0 : Value) (x : Int) (w : World) (hp : p.length = 12) (hb : Blk w g 212 (p ++ v0 :: q).toArray) :
    Calls Tryz.prog 152 #[.pointer (some ⟨g, 0, none⟩), .int .u8 x] w fun e w' => e = .returned (.tuple #[]) ∧ Blk w' g 212 (p ++ .int .u8 x :: q).toArray ∧ Fr [g] w w' := by
  have c0 := hb.at 12 hp.symm
  have f0 := hb.frozen 12
  have k0 := hb.put 12 hp.symm (.int .u8 x)
  have HB := Lib.hid k0
  clear hb hp k0
  go_enter Tryz.func152, Tryz.ntmps152
  go_wp2
  go_end0
  exact ⟨rfl, HB.out, (Fr.refl [g] w).set (by simp) _⟩

set_option maxHeartbeats 400000 in
theorem setSiz_any (g : Nat) (p q : List Value) (v0 v1 v2 v3 : Value) (x : Int) (w : World) (hx : u32ok x) (hp : p.length = 13) (hb : Blk w g 212 (p ++ v0 :: v1 :: v2 :: v3 :: q).toArray) :
    Calls Tryz.prog 153 #[.pointer (some ⟨g, 0, none⟩), .int .u32 x] w fun e w' => e = .returned (.tuple #[]) ∧ Blk w' g 212 (p ++ Lib.byteCells (le4 x) ++ q).toArray ∧ Fr [g] w w' := by
  obtain ⟨x0, x1⟩ := hx
  have HB := Lib.hid hb
  have HP := Lib.hid hp
  clear hb hp
  go_enter Tryz.func153, Tryz.ntmps153
  go_wp2_with fail
  refine (putLe32_any g 13 _ _ 212 p q v0 v1 v2 v3 x _ (by omega) x0 x1 HP.out.symm HB.out).mono ?_
  rintro e w1 ⟨rfl, hb1, hf1⟩
  go_wp2
  go_end0
  exact ⟨rfl, hb1, hf1⟩

set_option maxHeartbeats 400000 in
theorem setAlign_any (g : Nat) (p q : List Value) (v0 v1 v2 v3 : Value) (x : Int) (w : World) (hx : u32ok x) (hp : p.length = 17) (hb : Blk w g 212 (p ++ v0 :: v1 :: v2 :: v3 :: q).toArray) :
    Calls Tryz.prog 154 #[.pointer (some ⟨g, 0, none⟩), .int .u32 x] w fun e w' => e = .returned (.tuple #[]) ∧ Blk w' g 212 (p ++ Lib.byteCells (le4 x) ++ q).toArray ∧ Fr [g] w w' := by
  obtain ⟨x0, x1⟩ := hx
  have HB := Lib.hid hb
  have HP := Lib.hid hp
  clear hb hp
  go_enter Tryz.func154, Tryz.ntmps154
  go_wp2_with fail
  refine (putLe32_any g 17 _ _ 212 p q v0 v1 v2 v3 x _ (by omega) x0 x1 HP.out.symm HB.out).mono ?_
  rintro e w1 ⟨rfl, hb1, hf1⟩
  go_wp2
  go_end0
  exact ⟨rfl, hb1, hf1⟩

/-! ### Reloc -/
set_option maxHeartbeats 400000 in
theorem relSetOff_any (g : Nat) (p q : List Value) (v0 v1 v2 v3 : Value) (x : Int) (w : World) (hx : i32ok x) (hp : p.length = 0) (hb : Blk w g 155 (p ++ v0 :: v1 :: v2 :: v3 :: q).toArray) :
    Calls Tryz.prog 166 #[.pointer (some ⟨g, 0, none⟩), .int .i32 x] w fun e w' => e = .returned (.tuple #[]) ∧ Blk w' g 155 (p ++ Lib.byteCells (le4 x) ++ q).toArray ∧ Fr [g] w w' := by
  obtain ⟨x0, x1⟩ := hx
  have HB := Lib.hid hb
  have HP := Lib.hid hp
  clear hb hp
  go_enter Tryz.func166, Tryz.ntmps166
  go_wp2_with fail
  refine (putLe32_any g 0 _ _ 155 p q v0 v1 v2 v3 (x % 4294967296) _ (by omega) (by omega) (by omega) HP.out.symm HB.out).mono ?_
  rintro e w1 ⟨rfl, hb1, hf1⟩
  go_wp2
  go_end0
  rw [le4_mod] at hb1
  exact ⟨rfl, hb1, hf1⟩

set_option maxHeartbeats 400000 in
theorem relSetSiz_any (g : Nat) (p q : List Value) (v0 : Value) (x : Int) (w : World) (hp : p.length = 4) (hb : Blk w g 155 (p ++ v0 :: q).toArray) :
    Calls Tryz.prog 167 #[.pointer (some ⟨g, 0, none⟩), .int .u8 x] w fun e w' => e = .returned (.tuple #[]) ∧ Blk w' g 155 (p ++ .int .u8 x :: q).toArray ∧ Fr [g] w w' := by
  have c0 := hb.at 4 hp.symm
  have f0 := hb.frozen 4
  have k0 := hb.put 4 hp.symm (.int .u8 x)
  have HB := Lib.hid k0
  clear hb hp k0
  go_enter Tryz.func167, Tryz.ntmps167
  go_wp2
  go_end0
  exact ⟨rfl, HB.out, (Fr.refl [g] w).set (by simp) _⟩

set_option maxHeartbeats 400000 in
theorem relSetType_any (g : Nat) (p q : List Value) (v0 v1 : Value) (x : Int) (w : World) (hx : u16ok x) (hp : p.length = 5) (hb : Blk w g 155 (p ++ v0 :: v1 :: q).toArray) :
    Calls Tryz.prog 168 #[.pointer (some ⟨g, 0, none⟩), .int .u16 x] w fun e w' => e = .returned (.tuple #[]) ∧ Blk w' g 155 (p ++ Lib.byteCells (le2 x) ++ q).toArray ∧ Fr [g] w w' := by
  obtain ⟨x0, x1⟩ := hx
  have HB := Lib.hid hb
  have HP := Lib.hid hp
  clear hb hp
  go_enter Tryz.func168, Tryz.ntmps168
  go_wp2_with fail
  refine (putLe16_any g 5 _ _ 155 p q v0 v1 x _ (by omega) x0 x1 HP.out.symm HB.out).mono ?_
  rintro e w1 ⟨rfl, hb1, hf1⟩
  go_wp2
  go_end0
  exact ⟨rfl, hb1, hf1⟩

set_option maxHeartbeats 400000 in
theorem relSetAdd_any (g : Nat) (p q : List Value) (v0 v1 v2 v3 v4 v5 v6 v7 : Value) (x : Int) (w : World) (hx : i64ok x) (hp : p.length = 7) (hb : Blk w g 155 (p ++ v0 :: v1 :: v2 :: v3 :: v4 :: v5 :: v6 :: v7 :: q).toArray) :
    Calls Tryz.prog 169 #[.pointer (some ⟨g, 0, none⟩), .int .i64 x] w fun e w' => e = .returned (.tuple #[]) ∧ Blk w' g 155 (p ++ Lib.byteCells (le8 x) ++ q).toArray ∧ Fr [g] w w' := by
  obtain ⟨x0, x1⟩ := hx
  have HB := Lib.hid hb
  have HP := Lib.hid hp
  clear hb hp
  go_enter Tryz.func169, Tryz.ntmps169
  go_wp2_with fail
  refine (putLe64_any g 7 _ _ 155 p q v0 v1 v2 v3 v4 v5 v6 v7 (x % 18446744073709551616) _ (by omega) (by omega) (by omega) (by omega) HP.out.symm HB.out).mono ?_
  rintro e w1 ⟨rfl, hb1, hf1⟩
  go_wp2
  go_end0
  rw [le8_mod] at hb1
  exact ⟨rfl, hb1, hf1⟩

set_option maxHeartbeats 800000 in
set_option maxRecDepth 100000 in
theorem relSetSym_any (g : Nat) (p q : List Value) (v0 v1 v2 v3 v4 v5 v6 v7 : Value) (r : Ref) (w : World) (hr : r.ok) (hp : p.length = 15) (hb : Blk w g 155 (p ++ v0 :: v1 :: v2 :: v3 :: v4 :: v5 :: v6 :: v7 :: q).toArray) :
    Calls Tryz.prog 170 #[.pointer (some ⟨g, 0, none⟩), .agg r.cells.toArray] w fun e w' => e = .returned (.tuple #[]) ∧ Blk w' g 155 (p ++ Lib.byteCells r.enc ++ q).toArray ∧ Fr [g] w w' := by
  obtain ⟨a, b⟩ := r
  obtain ⟨⟨a0, a1⟩, ⟨b0, b1⟩⟩ := hr
  have hlt := hb.lt
  have HB := Lib.hid (hb.alloc (.cells #[.int .u32 a, .int .u32 b] 132))
  have HP := Lib.hid hp
  clear hb hp
  simp only [Ref.cells, Ref.enc]
  simp only at a0 a1 b0 b1
  go_enter Tryz.func170, Tryz.ntmps170
  go_wp2_with fail
  have hbk : Blk (w.alloc (.cells #[.int .u32 a, .int .u32 b] 132)) w.heap.size 132 #[.int .u32 a, .int .u32 b] := Blk.new w 132 _
  have hfr : Fr [g] w (w.alloc (.cells #[.int .u32 a, .int .u32 b] 132)) := (Fr.refl [g] w).alloc _
  generalize (w.alloc (.cells #[.int .u32 a, .int .u32 b] 132)) = w0 at hbk hfr HB ⊢
  have c0 : w0.cell? ⟨w.heap.size, 0, none⟩ = some (.int .u32 a) := by rw [hbk.cell]; rfl
  have H1 : Hid (Blk w0.drew w.heap.size 132 #[.int .u32 a, .int .u32 b]) := Lib.hid hbk
  have H2 : Hid (Fr [g] w w0.drew) := Lib.hid hfr.drew
  have HB2 : Hid (Blk w0.drew g 155 _) := HB
  clear hbk hfr HB
  go_still_tail 5, (by kernel_rfl)
  change wpList _ _ _ _ _ w0.drew
  clear c0
  generalize w0.drew = w1 at H1 H2 HB2 ⊢
  go_wp2_with fail
  refine (putLe32_any g 15 8 8 155 p (v4 :: v5 :: v6 :: v7 :: q) v0 v1 v2 v3 a _ (by omega) a0 a1 HP.out.symm HB2.out).mono ?_
  rintro e w2 ⟨rfl, hb1, hf1⟩
  have hk2 := hf1.blk (by simp; omega) H1.out
  have c1 : w2.cell? ⟨w.heap.size, 1, none⟩ = some (.int .u32 b) := by rw [hk2.cell]; rfl
  have H3 := Lib.hid hb1
  have H4 := Lib.hid (H2.out.trans hf1)
  clear hb1 hf1 hk2 H1 H2 HB2
  go_wp2_with fail
  go_still_tail 5, (by kernel_rfl)
  change wpList _ _ _ _ _ w2.drew
  have H5 : Hid (Blk w2.drew g 155 _) := H3
  have H6 : Hid (Fr [g] w w2.drew) := H4.out.drew
  generalize w2.drew = w3 at H5 H6 ⊢
  clear H3 H4 c1
  go_wp2_with fail
  refine (putLe32_any g 19 4 4 155 (p ++ Lib.byteCells (le4 a)) q v4 v5 v6 v7 b _ (by omega) b0 b1 (by rw [List.length_append, HP.out]; rfl) (by simpa using H5.out)).mono ?_
  rintro e w4 ⟨rfl, hb2, hf2⟩
  go_wp2
  go_end0
  exact ⟨rfl, by simpa [bc_app] using hb2, H6.out.trans hf2⟩

/-! ### Aux, RefFlags, RefName -/
set_option maxHeartbeats 400000 in
theorem auxSetType_any (g : Nat) (p q : List Value) (v0 : Value) (x : Int) (w : World) (hp : p.length = 0) (hb : Blk w g 163 (p ++ v0 :: q).toArray) :
    Calls Tryz.prog 156 #[.pointer (some ⟨g, 0, none⟩), .int .u8 x] w fun e w' => e = .returned (.tuple #[]) ∧ Blk w' g 163 (p ++ .int .u8 x :: q).toArray ∧ Fr [g] w w' := by
  have c0 := hb.at 0 hp.symm
  have f0 := hb.frozen 0
  have k0 := hb.put 0 hp.symm (.int .u8 x)
  have HB := Lib.hid k0
  clear hb hp k0
  go_enter Tryz.func156, Tryz.ntmps156
  go_wp2
  go_end0
  exact ⟨rfl, HB.out, (Fr.refl [g] w).set (by simp) _⟩

set_option maxHeartbeats 800000 in
set_option maxRecDepth 100000 in
theorem auxSetSym_any (g : Nat) (p q : List Value) (v0 v1 v2 v3 v4 v5 v6 v7 : Value) (r : Ref) (w : World) (hr : r.ok) (hp : p.length = 1) (hb : Blk w g 163 (p ++ v0 :: v1 :: v2 :: v3 :: v4 :: v5 :: v6 :: v7 :: q).toArray) :
    Calls Tryz.prog 157 #[.pointer (some ⟨g, 0, none⟩), .agg r.cells.toArray] w fun e w' => e = .returned (.tuple #[]) ∧ Blk w' g 163 (p ++ Lib.byteCells r.enc ++ q).toArray ∧ Fr [g] w w' := by
  obtain ⟨a, b⟩ := r
  obtain ⟨⟨a0, a1⟩, ⟨b0, b1⟩⟩ := hr
  have hlt := hb.lt
  have HB := Lib.hid (hb.alloc (.cells #[.int .u32 a, .int .u32 b] 132))
  have HP := Lib.hid hp
  clear hb hp
  simp only [Ref.cells, Ref.enc]
  simp only at a0 a1 b0 b1
  go_enter Tryz.func157, Tryz.ntmps157
  go_wp2_with fail
  have hbk : Blk (w.alloc (.cells #[.int .u32 a, .int .u32 b] 132)) w.heap.size 132 #[.int .u32 a, .int .u32 b] := Blk.new w 132 _
  have hfr : Fr [g] w (w.alloc (.cells #[.int .u32 a, .int .u32 b] 132)) := (Fr.refl [g] w).alloc _
  generalize (w.alloc (.cells #[.int .u32 a, .int .u32 b] 132)) = w0 at hbk hfr HB ⊢
  have c0 : w0.cell? ⟨w.heap.size, 0, none⟩ = some (.int .u32 a) := by rw [hbk.cell]; rfl
  have H1 : Hid (Blk w0.drew w.heap.size 132 #[.int .u32 a, .int .u32 b]) := Lib.hid hbk
  have H2 : Hid (Fr [g] w w0.drew) := Lib.hid hfr.drew
  have HB2 : Hid (Blk w0.drew g 163 _) := HB
  clear hbk hfr HB
  go_still_tail 5, (by kernel_rfl)
  change wpList _ _ _ _ _ w0.drew
  clear c0
  generalize w0.drew = w1 at H1 H2 HB2 ⊢
  go_wp2_with fail
  refine (putLe32_any g 1 8 8 163 p (v4 :: v5 :: v6 :: v7 :: q) v0 v1 v2 v3 a _ (by omega) a0 a1 HP.out.symm HB2.out).mono ?_
  rintro e w2 ⟨rfl, hb1, hf1⟩
  have hk2 := hf1.blk (by simp; omega) H1.out
  have c1 : w2.cell? ⟨w.heap.size, 1, none⟩ = some (.int .u32 b) := by rw [hk2.cell]; rfl
  have H3 := Lib.hid hb1
  have H4 := Lib.hid (H2.out.trans hf1)
  clear hb1 hf1 hk2 H1 H2 HB2
  go_wp2_with fail
  go_still_tail 5, (by kernel_rfl)
  change wpList _ _ _ _ _ w2.drew
  have H5 : Hid (Blk w2.drew g 163 _) := H3
  have H6 : Hid (Fr [g] w w2.drew) := H4.out.drew
  generalize w2.drew = w3 at H5 H6 ⊢
  clear H3 H4 c1
  go_wp2_with fail
  refine (putLe32_any g 5 4 4 163 (p ++ Lib.byteCells (le4 a)) q v4 v5 v6 v7 b _ (by omega) b0 b1 (by rw [List.length_append, HP.out]; rfl) (by simpa using H5.out)).mono ?_
  rintro e w4 ⟨rfl, hb2, hf2⟩
  go_wp2
  go_end0
  exact ⟨rfl, by simpa [bc_app] using hb2, H6.out.trans hf2⟩

set_option maxHeartbeats 800000 in
set_option maxRecDepth 100000 in
theorem flgSetSym_any (g : Nat) (p q : List Value) (v0 v1 v2 v3 v4 v5 v6 v7 : Value) (r : Ref) (w : World) (hr : r.ok) (hp : p.length = 0) (hb : Blk w g 189 (p ++ v0 :: v1 :: v2 :: v3 :: v4 :: v5 :: v6 :: v7 :: q).toArray) :
    Calls Tryz.prog 111 #[.pointer (some ⟨g, 0, none⟩), .agg r.cells.toArray] w fun e w' => e = .returned (.tuple #[]) ∧ Blk w' g 189 (p ++ Lib.byteCells r.enc ++ q).toArray ∧ Fr [g] w w' := by
  obtain ⟨a, b⟩ := r
  obtain ⟨⟨a0, a1⟩, ⟨b0, b1⟩⟩ := hr
  have hlt := hb.lt
  have HB := Lib.hid (hb.alloc (.cells #[.int .u32 a, .int .u32 b] 132))
  have HP := Lib.hid hp
  clear hb hp
  simp only [Ref.cells, Ref.enc]
  simp only at a0 a1 b0 b1
  go_enter Tryz.func111, Tryz.ntmps111
  go_wp2_with fail
  have hbk : Blk (w.alloc (.cells #[.int .u32 a, .int .u32 b] 132)) w.heap.size 132 #[.int .u32 a, .int .u32 b] := Blk.new w 132 _
  have hfr : Fr [g] w (w.alloc (.cells #[.int .u32 a, .int .u32 b] 132)) := (Fr.refl [g] w).alloc _
  generalize (w.alloc (.cells #[.int .u32 a, .int .u32 b] 132)) = w0 at hbk hfr HB ⊢
  have c0 : w0.cell? ⟨w.heap.size, 0, none⟩ = some (.int .u32 a) := by rw [hbk.cell]; rfl
  have H1 : Hid (Blk w0.drew w.heap.size 132 #[.int .u32 a, .int .u32 b]) := Lib.hid hbk
  have H2 : Hid (Fr [g] w w0.drew) := Lib.hid hfr.drew
  have HB2 : Hid (Blk w0.drew g 189 _) := HB
  clear hbk hfr HB
  go_still_tail 5, (by kernel_rfl)
  change wpList _ _ _ _ _ w0.drew
  clear c0
  generalize w0.drew = w1 at H1 H2 HB2 ⊢
  go_wp2_with fail
  refine (putLe32_any g 0 10 10 189 p (v4 :: v5 :: v6 :: v7 :: q) v0 v1 v2 v3 a _ (by omega) a0 a1 HP.out.symm HB2.out).mono ?_
  rintro e w2 ⟨rfl, hb1, hf1⟩
  have hk2 := hf1.blk (by simp; omega) H1.out
  have c1 : w2.cell? ⟨w.heap.size, 1, none⟩ = some (.int .u32 b) := by rw [hk2.cell]; rfl
  have H3 := Lib.hid hb1
  have H4 := Lib.hid (H2.out.trans hf1)
  clear hb1 hf1 hk2 H1 H2 HB2
  go_wp2_with fail
  go_still_tail 5, (by kernel_rfl)
  change wpList _ _ _ _ _ w2.drew
  have H5 : Hid (Blk w2.drew g 189 _) := H3
  have H6 : Hid (Fr [g] w w2.drew) := H4.out.drew
  generalize w2.drew = w3 at H5 H6 ⊢
  clear H3 H4 c1
  go_wp2_with fail
  refine (putLe32_any g 4 6 6 189 (p ++ Lib.byteCells (le4 a)) q v4 v5 v6 v7 b _ (by omega) b0 b1 (by rw [List.length_append, HP.out]; rfl) (by simpa using H5.out)).mono ?_
  rintro e w4 ⟨rfl, hb2, hf2⟩
  go_wp2
  go_end0
  exact ⟨rfl, by simpa [bc_app] using hb2, H6.out.trans hf2⟩

set_option maxHeartbeats 400000 in
theorem flgSetFlag_any (g : Nat) (p q : List Value) (v0 : Value) (x : Int) (w : World) (hp : p.length = 8) (hb : Blk w g 189 (p ++ v0 :: q).toArray) :
    Calls Tryz.prog 112 #[.pointer (some ⟨g, 0, none⟩), .int .u8 x] w fun e w' => e = .returned (.tuple #[]) ∧ Blk w' g 189 (p ++ .int .u8 x :: q).toArray ∧ Fr [g] w w' := by
  have c0 := hb.at 8 hp.symm
  have f0 := hb.frozen 8
  have k0 := hb.put 8 hp.symm (.int .u8 x)
  have HB := Lib.hid k0
  clear hb hp k0
  go_enter Tryz.func112, Tryz.ntmps112
  go_wp2
  go_end0
  exact ⟨rfl, HB.out, (Fr.refl [g] w).set (by simp) _⟩

set_option maxHeartbeats 400000 in
theorem flgSetFlag2_any (g : Nat) (p q : List Value) (v0 : Value) (x : Int) (w : World) (hp : p.length = 9) (hb : Blk w g 189 (p ++ v0 :: q).toArray) :
    Calls Tryz.prog 113 #[.pointer (some ⟨g, 0, none⟩), .int .u8 x] w fun e w' => e = .returned (.tuple #[]) ∧ Blk w' g 189 (p ++ .int .u8 x :: q).toArray ∧ Fr [g] w w' := by
  have c0 := hb.at 9 hp.symm
  have f0 := hb.frozen 9
  have k0 := hb.put 9 hp.symm (.int .u8 x)
  have HB := Lib.hid k0
  clear hb hp k0
  go_enter Tryz.func113, Tryz.ntmps113
  go_wp2
  go_end0
  exact ⟨rfl, HB.out, (Fr.refl [g] w).set (by simp) _⟩

set_option maxHeartbeats 800000 in
set_option maxRecDepth 100000 in
theorem namSetSym_any (g : Nat) (p q : List Value) (v0 v1 v2 v3 v4 v5 v6 v7 : Value) (r : Ref) (w : World) (hr : r.ok) (hp : p.length = 0) (hb : Blk w g 129 (p ++ v0 :: v1 :: v2 :: v3 :: v4 :: v5 :: v6 :: v7 :: q).toArray) :
    Calls Tryz.prog 59 #[.pointer (some ⟨g, 0, none⟩), .agg r.cells.toArray] w fun e w' => e = .returned (.tuple #[]) ∧ Blk w' g 129 (p ++ Lib.byteCells r.enc ++ q).toArray ∧ Fr [g] w w' := by
  obtain ⟨a, b⟩ := r
  obtain ⟨⟨a0, a1⟩, ⟨b0, b1⟩⟩ := hr
  have hlt := hb.lt
  have HB := Lib.hid (hb.alloc (.cells #[.int .u32 a, .int .u32 b] 132))
  have HP := Lib.hid hp
  clear hb hp
  simp only [Ref.cells, Ref.enc]
  simp only at a0 a1 b0 b1
  go_enter Tryz.func59, Tryz.ntmps59
  go_wp2_with fail
  have hbk : Blk (w.alloc (.cells #[.int .u32 a, .int .u32 b] 132)) w.heap.size 132 #[.int .u32 a, .int .u32 b] := Blk.new w 132 _
  have hfr : Fr [g] w (w.alloc (.cells #[.int .u32 a, .int .u32 b] 132)) := (Fr.refl [g] w).alloc _
  generalize (w.alloc (.cells #[.int .u32 a, .int .u32 b] 132)) = w0 at hbk hfr HB ⊢
  have c0 : w0.cell? ⟨w.heap.size, 0, none⟩ = some (.int .u32 a) := by rw [hbk.cell]; rfl
  have H1 : Hid (Blk w0.drew w.heap.size 132 #[.int .u32 a, .int .u32 b]) := Lib.hid hbk
  have H2 : Hid (Fr [g] w w0.drew) := Lib.hid hfr.drew
  have HB2 : Hid (Blk w0.drew g 129 _) := HB
  clear hbk hfr HB
  go_still_tail 5, (by kernel_rfl)
  change wpList _ _ _ _ _ w0.drew
  clear c0
  generalize w0.drew = w1 at H1 H2 HB2 ⊢
  go_wp2_with fail
  refine (putLe32_any g 0 16 16 129 p (v4 :: v5 :: v6 :: v7 :: q) v0 v1 v2 v3 a _ (by omega) a0 a1 HP.out.symm HB2.out).mono ?_
  rintro e w2 ⟨rfl, hb1, hf1⟩
  have hk2 := hf1.blk (by simp; omega) H1.out
  have c1 : w2.cell? ⟨w.heap.size, 1, none⟩ = some (.int .u32 b) := by rw [hk2.cell]; rfl
  have H3 := Lib.hid hb1
  have H4 := Lib.hid (H2.out.trans hf1)
  clear hb1 hf1 hk2 H1 H2 HB2
  go_wp2_with fail
  go_still_tail 5, (by kernel_rfl)
  change wpList _ _ _ _ _ w2.drew
  have H5 : Hid (Blk w2.drew g 129 _) := H3
  have H6 : Hid (Fr [g] w w2.drew) := H4.out.drew
  generalize w2.drew = w3 at H5 H6 ⊢
  clear H3 H4 c1
  go_wp2_with fail
  refine (putLe32_any g 4 12 12 129 (p ++ Lib.byteCells (le4 a)) q v4 v5 v6 v7 b _ (by omega) b0 b1 (by rw [List.length_append, HP.out]; rfl) (by simpa using H5.out)).mono ?_
  rintro e w4 ⟨rfl, hb2, hf2⟩
  go_wp2
  go_end0
  exact ⟨rfl, by simpa [bc_app] using hb2, H6.out.trans hf2⟩

end Go.Proofs.YtnhafphgkipldaaGreatDoor
