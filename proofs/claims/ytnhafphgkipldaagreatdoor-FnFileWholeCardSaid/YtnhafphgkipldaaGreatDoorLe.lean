/- The contracts of le16, le32, le64, putLe16, putLe32, putLe64: numbers read and written, the lowest byte first. Conditions: the bytes lie where the slice says. -/
import Derived.Test.YtnhafphgkipldaaGreatDoorBase
import Derived.Lib.EndianBits
namespace Go.Proofs.YtnhafphgkipldaaGreatDoor
open Go Go.RowKit

theorem b8_eq {x y : Int} (h : x % 256 = y % 256) : b8 x = b8 y := by unfold b8; rw [h]
theorem le4_mod (x : Int) : le4 (x % 4294967296) = le4 x := by
  unfold le4
  rw [b8_eq (x := x % 4294967296) (y := x) (by omega), b8_eq (x := x % 4294967296 / 256) (y := x / 256) (by omega), b8_eq (x := x % 4294967296 / 65536) (y := x / 65536) (by omega), b8_eq (x := x % 4294967296 / 16777216) (y := x / 16777216) (by omega)]
theorem le2_mod (x : Int) : le2 (x % 65536) = le2 x := by
  unfold le2
  rw [b8_eq (x := x % 65536) (y := x) (by omega), b8_eq (x := x % 65536 / 256) (y := x / 256) (by omega)]
theorem le8_mod (x : Int) : le8 (x % 18446744073709551616) = le8 x := by
  unfold le8
  rw [← le4_mod (x % 18446744073709551616), ← le4_mod x, ← le4_mod (x % 18446744073709551616 / 4294967296), ← le4_mod (x / 4294967296)]
  congr 2
  all_goals omega

theorem bc_le4 {x : Int} (hx : 0 ≤ x) (hx2 : x < 4294967296) : Lib.byteCells (le4 x) = [.int .u8 (x % 256), .int .u8 (x / 256 % 256), .int .u8 (x / 65536 % 256), .int .u8 (x / 16777216)] := by
  have e : x / 16777216 % 256 = x / 16777216 := by omega
  simp [Lib.byteCells, le4, b8_val, e]
theorem bc_le2 {x : Int} (hx : 0 ≤ x) (hx2 : x < 65536) : Lib.byteCells (le2 x) = [.int .u8 (x % 256), .int .u8 (x / 256)] := by
  have e : x / 256 % 256 = x / 256 := by omega
  simp [Lib.byteCells, le2, b8_val, e]
theorem Cs.byte {w : World} {b off : Nat} {l : By} (h : Cs w b off (Lib.byteCells l)) (j : Nat) (c : UInt8) (hj : l[j]? = some c) : w.cell? ⟨b, off + j, none⟩ = some (.int .u8 (c.toNat : Int)) :=
  h j _ (by rw [bc_get, hj]; rfl)
/-- The four bytes of a number, as numbers. -/
theorem Cs.four {w : World} {b off : Nat} {x : Int} (h : Cs w b off (Lib.byteCells (le4 x))) : ∃ c0 c1 c2 c3 : Int, (0 ≤ c0 ∧ c0 < 256) ∧ (0 ≤ c1 ∧ c1 < 256) ∧ (0 ≤ c2 ∧ c2 < 256) ∧ (0 ≤ c3 ∧ c3 < 256) ∧ Hid (c0 + c1 * 256 + c2 * 65536 + c3 * 16777216 = x % 4294967296) ∧
    w.cell? ⟨b, off, none⟩ = some (.int .u8 c0) ∧ w.cell? ⟨b, off + 1, none⟩ = some (.int .u8 c1) ∧ w.cell? ⟨b, off + 2, none⟩ = some (.int .u8 c2) ∧ w.cell? ⟨b, off + 3, none⟩ = some (.int .u8 c3) := by
  have e0 := h.byte 0 _ rfl
  have e1 := h.byte 1 _ rfl
  have e2 := h.byte 2 _ rfl
  have e3 := h.byte 3 _ rfl
  rw [b8_val] at e0 e1 e2 e3
  refine ⟨_, _, _, _, ⟨?_, ?_⟩, ⟨?_, ?_⟩, ⟨?_, ?_⟩, ⟨?_, ?_⟩, ?_, e0, e1, e2, e3⟩
  all_goals (try unfold Hid)
  all_goals omega

set_option maxHeartbeats 400000 in
theorem le32_any (b off n c : Nat) (x : Int) (w : World) (hn : 4 ≤ n) (hx : 0 ≤ x) (hx2 : x < 4294967296) (hc : Cs w b off (Lib.byteCells (le4 x))) :
    Calls Tryz.prog 123 #[.slice (some ⟨b, off, none⟩) n c] w fun e w' => e = .returned (.int .u32 x) ∧ ∃ k, w' = w.drewN k := by
  obtain ⟨c0, c1, c2, c3, ⟨l0, h0⟩, ⟨l1, h1⟩, ⟨l2, h2⟩, ⟨l3, h3⟩, HX, e0, e1, e2, e3⟩ := hc.four
  have hn0 : (0:Int) < (n:Int) := by omega
  have hn1 : (1:Int) < (n:Int) := by omega
  have hn2 : (2:Int) < (n:Int) := by omega
  have hn3 : (3:Int) < (n:Int) := by omega
  go_enter Tryz.func123, Tryz.ntmps123
  go_wp2
  go_quiet (fail)
  go_wp2
  go_ret
  refine ⟨?_, nq, rfl⟩
  have hx3 := HX.out
  simp (disch := omega) only [u32_or8, u32_or16, u32_or24]
  have e : c0 + c1 * 256 + c2 * 65536 + c3 * 16777216 = x := by omega
  rw [← e]; rfl

set_option maxHeartbeats 400000 in
theorem le16_any (b off n c : Nat) (x : Int) (w : World) (hn : 2 ≤ n) (hx : 0 ≤ x) (hx2 : x < 65536) (hc : Cs w b off (Lib.byteCells (le2 x))) :
    Calls Tryz.prog 160 #[.slice (some ⟨b, off, none⟩) n c] w fun e w' => e = .returned (.int .u16 x) ∧ ∃ k, w' = w.drewN k := by
  have e0 : w.cell? ⟨b, off, none⟩ = _ := hc.byte 0 _ rfl
  have e1 := hc.byte 1 _ rfl
  rw [b8_val] at e0 e1
  obtain ⟨c0, hc0⟩ : ∃ c0, c0 = x % 256 := ⟨_, rfl⟩
  obtain ⟨c1, hc1⟩ : ∃ c1, c1 = x / 256 % 256 := ⟨_, rfl⟩
  rw [← hc0] at e0
  rw [← hc1] at e1
  have l0 : 0 ≤ c0 := by omega
  have l1 : 0 ≤ c1 := by omega
  have h0 : c0 < 256 := by omega
  have h1 : c1 < 256 := by omega
  have HX : Hid (c0 + c1 * 256 = x) := by unfold Hid; omega
  clear hc0 hc1
  have hn0 : 0 < n := by omega
  have hn1 : (1:Int) < (n:Int) := by omega
  go_enter Tryz.func160, Tryz.ntmps160
  go_wp2
  go_quiet (fail)
  go_wp2
  go_ret
  refine ⟨?_, nq, rfl⟩
  have hx3 := HX.out
  simp (disch := omega) only [u16_or8]
  rw [← hx3]; rfl

set_option maxHeartbeats 400000 in
theorem le64_any (b off n c : Nat) (x : Int) (w : World) (hn : 8 ≤ n) (hnc : n ≤ c) (hx : 0 ≤ x) (hx2 : x < 18446744073709551616) (hc : Cs w b off (Lib.byteCells (le8 x))) :
    Calls Tryz.prog 161 #[.slice (some ⟨b, off, none⟩) n c] w fun e w' => e = .returned (.int .u64 x) ∧ ∃ k, w' = w.drewN k := by
  have d : Cs w b off (Lib.byteCells (le4 (x % 4294967296))) ∧ Cs w b (off + 4) (Lib.byteCells (le4 (x / 4294967296))) := by
    have e1 : le4 (x % 4294967296) = le4 x := le4_mod x
    rw [e1]
    unfold le8 at hc
    rw [bc_app] at hc
    exact ⟨hc.left, hc.right⟩
  obtain ⟨d1, d2⟩ := d
  have hn7 : (7:Int) < (n:Int) := by omega
  have hn4 : (4:Int) ≤ (n:Int) := by omega
  have hc4 : (4:Int) ≤ (c:Int) := by omega
  have hnc' : (n:Int) ≤ (c:Int) := by omega
  have e7 := d2.byte 3 _ rfl
  have e7' : w.cell? ⟨b, off + 7, none⟩ = _ := e7
  have HX : Hid (x / 4294967296 * 4294967296 + x % 4294967296 = x) := by unfold Hid; omega
  have HB : Hid (0 ≤ x ∧ x < 18446744073709551616) := ⟨hx, hx2⟩
  have y0 : 0 ≤ x / 4294967296 := by omega
  have y1 : x / 4294967296 < 4294967296 := by omega
  have z0 : 0 ≤ x % 4294967296 := by omega
  have z1 : x % 4294967296 < 4294967296 := by omega
  generalize x / 4294967296 = y at *
  generalize x % 4294967296 = z at *
  clear hx hx2 hc e7
  go_enter Tryz.func161, Tryz.ntmps161
  go_wp2_with fail
  go_quiet (first | (with_reducible refine Calls.quiet_of (le32_any b off n c z _ (by omega) z0 z1 (d1.drewN _))) | (with_reducible refine Calls.quiet_of (le32_any b (off + 4) (n - 4) (c - 4) y _ (by omega) y0 y1 (d2.drewN _))))
  go_wp2
  go_ret
  refine ⟨?_, nq, rfl⟩
  have hx3 := HX.out
  simp (disch := omega) only [u64_or32]
  rw [← hx3]
  exact ret_int (by omega)

set_option maxHeartbeats 400000 in
/-- putLe32 on four cells of a block. -/
theorem putLe32_any (g off n c : Nat) (T : TypeId) (p q : List Value) (v0 v1 v2 v3 : Value) (x : Int) (w : World) (hn : 4 ≤ n) (hx : 0 ≤ x) (hx2 : x < 4294967296) (hp : off = p.length) (hb : Blk w g T (p ++ v0 :: v1 :: v2 :: v3 :: q).toArray) :
    Calls Tryz.prog 106 #[.slice (some ⟨g, off, none⟩) n c, .int .u32 x] w fun e w' => e = .returned (.tuple #[]) ∧ Blk w' g T (p ++ Lib.byteCells (le4 x) ++ q).toArray ∧ Fr [g] w w' := by
  have h0 : w.cell? ⟨g, off, none⟩ = some v0 := hb.at _ hp
  have h1 : w.cell? ⟨g, off + 1, none⟩ = some v1 := Blk.at (p := p ++ [v0]) (by simpa using hb) _ (by simp [hp])
  have h2 : w.cell? ⟨g, off + 2, none⟩ = some v2 := Blk.at (p := p ++ [v0, v1]) (by simpa using hb) _ (by simp [hp])
  have h3 : w.cell? ⟨g, off + 3, none⟩ = some v3 := Blk.at (p := p ++ [v0, v1, v2]) (by simpa using hb) _ (by simp [hp])
  have f0 := hb.frozen off
  have f1 := hb.frozen (off + 1)
  have f2 := hb.frozen (off + 2)
  have f3 := hb.frozen (off + 3)
  have hn0 : 0 < n := by omega
  have hn1 : (1:Int) < (n:Int) := by omega
  have hn2 : (2:Int) < (n:Int) := by omega
  have hn3 : (3:Int) < (n:Int) := by omega
  have HB := Lib.hid hb
  have HP := Lib.hid hp
  clear hb hp
  go_enter Tryz.func106, Tryz.ntmps106
  go_wp2
  go_end0
  have hb := HB.out
  have hp := HP.out
  refine ⟨rfl, ?_, ((((Fr.refl [g] w).set (by simp) _).set (by simp) _).set (by simp) _).set (by simp) _⟩
  have k0 := hb.put off hp (.int .u8 (x % 256))
  have k1 := Blk.put (p := p ++ [_]) (by simpa using k0) (off + 1) (by simp [hp]) (.int .u8 (x / 256 % 256))
  have k2 := Blk.put (p := p ++ [_, _]) (by simpa using k1) (off + 2) (by simp [hp]) (.int .u8 (x / 65536 % 256))
  have k3 := Blk.put (p := p ++ [_, _, _]) (by simpa using k2) (off + 3) (by simp [hp]) (.int .u8 (x / 16777216))
  rw [bc_le4 hx hx2]
  simpa using k3

set_option maxHeartbeats 400000 in
theorem putLe16_any (g off n c : Nat) (T : TypeId) (p q : List Value) (v0 v1 : Value) (x : Int) (w : World) (hn : 2 ≤ n) (hx : 0 ≤ x) (hx2 : x < 65536) (hp : off = p.length) (hb : Blk w g T (p ++ v0 :: v1 :: q).toArray) :
    Calls Tryz.prog 165 #[.slice (some ⟨g, off, none⟩) n c, .int .u16 x] w fun e w' => e = .returned (.tuple #[]) ∧ Blk w' g T (p ++ Lib.byteCells (le2 x) ++ q).toArray ∧ Fr [g] w w' := by
  have h0 : w.cell? ⟨g, off, none⟩ = some v0 := hb.at _ hp
  have h1 : w.cell? ⟨g, off + 1, none⟩ = some v1 := Blk.at (p := p ++ [v0]) (by simpa using hb) _ (by simp [hp])
  have f0 := hb.frozen off
  have f1 := hb.frozen (off + 1)
  have hn0 : 0 < n := by omega
  have hn1 : (1:Int) < (n:Int) := by omega
  have HB := Lib.hid hb
  have HP := Lib.hid hp
  clear hb hp
  go_enter Tryz.func165, Tryz.ntmps165
  go_wp2
  go_end0
  have hb := HB.out
  have hp := HP.out
  refine ⟨rfl, ?_, ((Fr.refl [g] w).set (by simp) _).set (by simp) _⟩
  have k0 := hb.put off hp (.int .u8 (x % 256))
  have k1 := Blk.put (p := p ++ [_]) (by simpa using k0) (off + 1) (by simp [hp]) (.int .u8 (x / 256))
  rw [bc_le2 hx hx2]
  simpa using k1

set_option maxHeartbeats 400000 in
theorem putLe64_any (g off n c : Nat) (T : TypeId) (p q : List Value) (v0 v1 v2 v3 v4 v5 v6 v7 : Value) (x : Int) (w : World) (hn : 8 ≤ n) (hnc : n ≤ c) (hx : 0 ≤ x) (hx2 : x < 18446744073709551616) (hp : off = p.length)
    (hb : Blk w g T (p ++ v0 :: v1 :: v2 :: v3 :: v4 :: v5 :: v6 :: v7 :: q).toArray) :
    Calls Tryz.prog 114 #[.slice (some ⟨g, off, none⟩) n c, .int .u64 x] w fun e w' => e = .returned (.tuple #[]) ∧ Blk w' g T (p ++ Lib.byteCells (le8 x) ++ q).toArray ∧ Fr [g] w w' := by
  have h7 : w.cell? ⟨g, off + 7, none⟩ = some v7 := Blk.at (p := p ++ [v0, v1, v2, v3, v4, v5, v6]) (by simpa using hb) _ (by simp [hp])
  have hn7 : (7:Int) < (n:Int) := by omega
  have hn4 : (4:Int) ≤ (n:Int) := by omega
  have hc4 : (4:Int) ≤ (c:Int) := by omega
  have hnc' : (n:Int) ≤ (c:Int) := by omega
  have HB := Lib.hid hb
  have HP := Lib.hid hp
  clear hb hp
  go_enter Tryz.func114, Tryz.ntmps114
  go_wp2_with fail
  refine (putLe32_any g off n c T p (v4 :: v5 :: v6 :: v7 :: q) v0 v1 v2 v3 _ _ (by omega) (by omega) (by omega) HP.out HB.out).mono ?_
  rintro e w1 ⟨rfl, hb1, hf1⟩
  have HB1 := Lib.hid hb1
  clear hb1
  go_wp2_with fail
  refine (putLe32_any g (off + 4) (n - 4) (c - 4) T (p ++ Lib.byteCells (le4 (x % 4294967296))) q v4 v5 v6 v7 _ _ (by omega) (by omega) (by omega) (by rw [List.length_append, HP.out]; rfl) (by simpa using HB1.out)).mono ?_
  rintro e w2 ⟨rfl, hb2, hf2⟩
  go_wp2
  go_end0
  refine ⟨rfl, ?_, hf1.trans hf2⟩
  rw [le4_mod] at hb2
  simpa [le8, bc_app] using hb2
end Go.Proofs.YtnhafphgkipldaaGreatDoor

/- The data of an object file as plain Lean, its cells as Go has them, and its bytes as they are written. Plain; no walk. -/
namespace Go.Proofs.YtnhafphgkipldaaGreatDoor
open Go Go.RowKit

/-! ### the table of strings -/
abbrev Tab := List (By × Int)
def tlook (M : Tab) (s : By) : Option Int := (M.find? (fun p => p.1 == s)).map (·.2)
theorem tlook_cons (s : By) (o : Int) (M : Tab) (t : By) : tlook ((s, o) :: M) t = if s = t then some o else tlook M t := by
  unfold tlook
  by_cases h : s = t <;> simp [List.find?_cons, h]


structure Ref where
  pkg : Int
  sym : Int
structure Sy where
  abi : Int
  kind : Int
  flag : Int
  flag2 : Int
  size : Int
  align : Int
structure Rel where
  off : Int
  size : Int
  kind : Int
  add : Int
  ref : Ref
structure Aux where
  kind : Int
  ref : Ref
structure Flg where
  ref : Ref
  flag : Int
  flag2 : Int
structure Nam where
  ref : Ref
  name : ByteArray
structure Rfd where
  name : ByteArray
  sy : Sy
structure Imp where
  pkg : ByteArray
  fp : By
structure Def where
  name : ByteArray
  sy : Sy
  rels : List Rel
  auxs : List Aux
  data : ByteArray
structure Fil where
  fp : By
  flags : Int
  imports : List Imp
  packages : List ByteArray
  files : List ByteArray
  own : List Def
  short : List Def
  hashed : List Def
  other : List Def
  refs : List Rfd
  refFlags : List Flg
  hashes64 : List Int
  hashes : List By
  refNames : List Nam

def u8ok (x : Int) : Prop := 0 ≤ x ∧ x < 256
def u16ok (x : Int) : Prop := 0 ≤ x ∧ x < 65536
def u32ok (x : Int) : Prop := 0 ≤ x ∧ x < 4294967296
def u64ok (x : Int) : Prop := 0 ≤ x ∧ x < 18446744073709551616
def i32ok (x : Int) : Prop := -2147483648 ≤ x ∧ x < 2147483648
def i64ok (x : Int) : Prop := -9223372036854775808 ≤ x ∧ x < 9223372036854775808

def Ref.ok (r : Ref) : Prop := u32ok r.pkg ∧ u32ok r.sym
def Sy.ok (s : Sy) : Prop := u16ok s.abi ∧ u8ok s.kind ∧ u8ok s.flag ∧ u8ok s.flag2 ∧ u32ok s.size ∧ u32ok s.align
def Rel.ok (r : Rel) : Prop := i32ok r.off ∧ u8ok r.size ∧ u16ok r.kind ∧ i64ok r.add ∧ r.ref.ok
def Aux.ok (a : Aux) : Prop := u8ok a.kind ∧ a.ref.ok
def Flg.ok (f : Flg) : Prop := f.ref.ok ∧ u8ok f.flag ∧ u8ok f.flag2
def Nam.ok (n : Nam) : Prop := n.ref.ok
def Rfd.ok (r : Rfd) : Prop := r.sy.ok
def Imp.ok (i : Imp) : Prop := i.fp.length = 8

/-! ### cells -/
def Ref.cells (r : Ref) : List Value := [.int .u32 r.pkg, .int .u32 r.sym]
def Sy.cells (s : Sy) : List Value := [.int .u16 s.abi, .int .u8 s.kind, .int .u8 s.flag, .int .u8 s.flag2, .int .u32 s.size, .int .u32 s.align]
def Rel.cells (r : Rel) : List Value := [.int .i32 r.off, .int .u8 r.size, .int .u16 r.kind, .int .i64 r.add, .int .u32 r.ref.pkg, .int .u32 r.ref.sym]
def Aux.cells (a : Aux) : List Value := [.int .u8 a.kind, .int .u32 a.ref.pkg, .int .u32 a.ref.sym]
def Flg.cells (f : Flg) : List Value := [.int .u32 f.ref.pkg, .int .u32 f.ref.sym, .int .u8 f.flag, .int .u8 f.flag2]
def Nam.cells (n : Nam) : List Value := [.int .u32 n.ref.pkg, .int .u32 n.ref.sym, .string n.name]
def Rfd.cells (r : Rfd) : List Value := .string r.name :: r.sy.cells
def Imp.cells (i : Imp) : List Value := .string i.pkg :: Lib.byteCells i.fp

/-! ### bytes -/
def Ref.enc (r : Ref) : By := le4 r.pkg ++ le4 r.sym
def Sy.enc (s : Sy) : By := le2 s.abi ++ [b8 s.kind, b8 s.flag, b8 s.flag2] ++ le4 s.size ++ le4 s.align
def Rel.enc (r : Rel) : By := le4 r.off ++ [b8 r.size] ++ le2 r.kind ++ le8 r.add ++ r.ref.enc
def Aux.enc (a : Aux) : By := [b8 a.kind] ++ a.ref.enc
def Flg.enc (f : Flg) : By := f.ref.enc ++ [b8 f.flag, b8 f.flag2]
def strOff (M : Tab) (s : ByteArray) : Int := (tlook M s.data.toList).getD 0
def sref (M : Tab) (s : ByteArray) : By := le4 s.size ++ le4 (strOff M s)
def Nam.enc (M : Tab) (n : Nam) : By := n.ref.enc ++ sref M n.name
def Rfd.enc (M : Tab) (r : Rfd) : By := sref M r.name ++ r.sy.enc
def Imp.enc (M : Tab) (i : Imp) : By := sref M i.pkg ++ i.fp

/-! ### slices that read as lists -/
/-- The slice value v reads, in w, as the list l: each element lies in sz cells, of which R says what they are. -/
def Sl {α : Type} (sz : Nat) (R : α → List Value → Prop) (w : World) (v : Value) (l : List α) : Prop :=
  ∃ A c, v = .slice A l.length c ∧ (l ≠ [] → ∃ b off, A = some ⟨b, off, none⟩ ∧ ∀ i x, l[i]? = some x → ∃ cs, R x cs ∧ cs.length = sz ∧ Cs w b (off + i * sz) cs)
def StrR (s : ByteArray) (cs : List Value) : Prop := cs = [.string s]
def U64R (x : Int) (cs : List Value) : Prop := u64ok x ∧ cs = [.int .u64 x]
def HashR (h : By) (cs : List Value) : Prop := h.length = 16 ∧ cs = Lib.byteCells h
def RelR (r : Rel) (cs : List Value) : Prop := r.ok ∧ cs = r.cells
def AuxR (r : Aux) (cs : List Value) : Prop := r.ok ∧ cs = r.cells
def FlgR (r : Flg) (cs : List Value) : Prop := r.ok ∧ cs = r.cells
def NamR (r : Nam) (cs : List Value) : Prop := r.ok ∧ cs = r.cells
def RfdR (r : Rfd) (cs : List Value) : Prop := r.ok ∧ cs = r.cells
def ImpR (r : Imp) (cs : List Value) : Prop := r.ok ∧ cs = r.cells
/-- The cells of a symbol with data: its two slices read as its lists. -/
def DefR (w : World) (d : Def) (cs : List Value) : Prop :=
  d.sy.ok ∧ ∃ vr va, cs = .string d.name :: d.sy.cells ++ [vr, va, .string d.data] ∧ Sl 6 RelR w vr d.rels ∧ Sl 3 AuxR w va d.auxs
/-- The cells of a file's value: its bytes, its flags, its twelve slices. -/
structure FilC (cs : List Value) (F : Fil) (v0 v1 v2 v3 v4 v5 v6 v7 v8 v9 v10 v11 : Value) : Prop where
  len : cs.length = 21
  fpl : F.fp.length = 8
  fp : cs.take 8 = Lib.byteCells F.fp
  fl : cs[8]? = some (.int .u32 F.flags)
  e0 : cs[9]? = some v0
  e1 : cs[10]? = some v1
  e2 : cs[11]? = some v2
  e3 : cs[12]? = some v3
  e4 : cs[13]? = some v4
  e5 : cs[14]? = some v5
  e6 : cs[15]? = some v6
  e7 : cs[16]? = some v7
  e8 : cs[17]? = some v8
  e9 : cs[18]? = some v9
  e10 : cs[19]? = some v10
  e11 : cs[20]? = some v11
/-- What the twelve slices read as. -/
structure FilS (w : World) (F : Fil) (v0 v1 v2 v3 v4 v5 v6 v7 v8 v9 v10 v11 : Value) : Prop where
  flo : u32ok F.flags
  s0 : Sl 9 ImpR w v0 F.imports
  s1 : Sl 1 StrR w v1 F.packages
  s2 : Sl 1 StrR w v2 F.files
  s3 : Sl 10 (DefR w) w v3 F.own
  s4 : Sl 10 (DefR w) w v4 F.short
  s5 : Sl 10 (DefR w) w v5 F.hashed
  s6 : Sl 10 (DefR w) w v6 F.other
  s7 : Sl 7 RfdR w v7 F.refs
  s8 : Sl 4 FlgR w v8 F.refFlags
  s9 : Sl 1 U64R w v9 F.hashes64
  s10 : Sl 16 HashR w v10 F.hashes
  s11 : Sl 3 NamR w v11 F.refNames
/-- The value of a file. -/
def FilR (w : World) (v : Value) (F : Fil) : Prop :=
  ∃ cs v0 v1 v2 v3 v4 v5 v6 v7 v8 v9 v10 v11, v = .agg cs.toArray ∧ FilC cs F v0 v1 v2 v3 v4 v5 v6 v7 v8 v9 v10 v11 ∧ FilS w F v0 v1 v2 v3 v4 v5 v6 v7 v8 v9 v10 v11

theorem bc_one' (l : By) : ∀ v ∈ Lib.byteCells l, v.oneCell' = true := Lib.byteCells_one l
theorem imp_one {x : Imp} {cs : List Value} (h : ImpR x cs) : ∀ v ∈ cs, v.oneCell' = true := by
  rw [h.2]; intro v hv
  simp only [Imp.cells, List.mem_cons] at hv
  rcases hv with rfl | hv
  · rfl
  · exact bc_one' _ v hv
theorem rfd_one {x : Rfd} {cs : List Value} (h : RfdR x cs) : ∀ v ∈ cs, v.oneCell' = true := by
  rw [h.2]; intro v hv
  simp only [Rfd.cells, Sy.cells, List.mem_cons, List.not_mem_nil, or_false] at hv
  rcases hv with rfl | rfl | rfl | rfl | rfl | rfl | rfl <;> rfl
theorem nam_one {x : Nam} {cs : List Value} (h : NamR x cs) : ∀ v ∈ cs, v.oneCell' = true := by
  rw [h.2]; intro v hv
  simp only [Nam.cells, List.mem_cons, List.not_mem_nil, or_false] at hv
  rcases hv with rfl | rfl | rfl <;> rfl
theorem flg_one {x : Flg} {cs : List Value} (h : FlgR x cs) : ∀ v ∈ cs, v.oneCell' = true := by
  rw [h.2]; intro v hv
  simp only [Flg.cells, List.mem_cons, List.not_mem_nil, or_false] at hv
  rcases hv with rfl | rfl | rfl | rfl <;> rfl
theorem rel_one {x : Rel} {cs : List Value} (h : RelR x cs) : ∀ v ∈ cs, v.oneCell' = true := by
  rw [h.2]; intro v hv
  simp only [Rel.cells, List.mem_cons, List.not_mem_nil, or_false] at hv
  rcases hv with rfl | rfl | rfl | rfl | rfl | rfl <;> rfl
theorem aux_one {x : Aux} {cs : List Value} (h : AuxR x cs) : ∀ v ∈ cs, v.oneCell' = true := by
  rw [h.2]; intro v hv
  simp only [Aux.cells, List.mem_cons, List.not_mem_nil, or_false] at hv
  rcases hv with rfl | rfl | rfl <;> rfl
theorem Sl.one {α : Type} {sz : Nat} {R : α → List Value → Prop} {w : World} {v : Value} {l : List α} (h : Sl sz R w v l) : v.oneCell' = true := by
  obtain ⟨A, c, rfl, _⟩ := h; rfl
theorem def_one {w : World} {x : Def} {cs : List Value} (h : DefR w x cs) : ∀ v ∈ cs, v.oneCell' = true := by
  obtain ⟨_, vr, va, rfl, h1, h2⟩ := h
  intro v hv
  simp only [Sy.cells, List.mem_cons, List.mem_append, List.not_mem_nil, or_false] at hv
  rcases hv with (rfl | rfl | rfl | rfl | rfl | rfl | rfl) | rfl | rfl | rfl <;> first | rfl | exact h1.one | exact h2.one

theorem cs_lt {w : World} {b off : Nat} {cs : List Value} (h : Cs w b off cs) (hl : 0 < cs.length) : b < w.heap.size := by
  have := h 0 cs[0] (List.getElem?_eq_getElem hl)
  exact cell_lt this
/-- What reads so reads so as long as the old blocks stand. -/
theorem Cs.below {w w' : World} {B b off : Nat} {cs : List Value} (h : Cs w b off cs) (hB : Below B w w') (hb : b < B) : Cs w' b off cs :=
  h.keep fun o v hv => by rw [← hv]; exact hB.cell hb
theorem Sl.old {α : Type} {sz : Nat} {R R' : α → List Value → Prop} {w w' : World} {v : Value} {l : List α} (h : Sl sz R w v l) (hsz : 0 < sz) (hB : Below w.heap.size w w') (hR : ∀ x cs, R x cs → R' x cs) : Sl sz R' w' v l := by
  obtain ⟨A, c, rfl, h⟩ := h
  refine ⟨A, c, rfl, fun hl => ?_⟩
  obtain ⟨b, off, rfl, h1⟩ := h hl
  refine ⟨b, off, rfl, fun i x hx => ?_⟩
  obtain ⟨cs, hr, hlen, hc⟩ := h1 i x hx
  exact ⟨cs, hR _ _ hr, hlen, hc.below hB (cs_lt hc (by omega))⟩
theorem DefR.old {w w' : World} (hB : Below w.heap.size w w') (d : Def) (cs : List Value) (h : DefR w d cs) : DefR w' d cs := by
  obtain ⟨ho, vr, va, rfl, h1, h2⟩ := h
  exact ⟨ho, vr, va, rfl, h1.old (by decide) hB (fun _ _ h => h), h2.old (by decide) hB (fun _ _ h => h)⟩
theorem FilR.old {w w' : World} {v : Value} {F : Fil} (h : FilR w v F) (hB : Below w.heap.size w w') : FilR w' v F := by
  obtain ⟨cs, v0, v1, v2, v3, v4, v5, v6, v7, v8, v9, v10, v11, hv, hc, k⟩ := h
  exact ⟨cs, v0, v1, v2, v3, v4, v5, v6, v7, v8, v9, v10, v11, hv, hc, k.flo, k.s0.old (by decide) hB (fun _ _ h => h), k.s1.old (by decide) hB (fun _ _ h => h), k.s2.old (by decide) hB (fun _ _ h => h),
    k.s3.old (by decide) hB (DefR.old hB), k.s4.old (by decide) hB (DefR.old hB), k.s5.old (by decide) hB (DefR.old hB), k.s6.old (by decide) hB (DefR.old hB),
    k.s7.old (by decide) hB (fun _ _ h => h), k.s8.old (by decide) hB (fun _ _ h => h), k.s9.old (by decide) hB (fun _ _ h => h), k.s10.old (by decide) hB (fun _ _ h => h), k.s11.old (by decide) hB (fun _ _ h => h)⟩

end Go.Proofs.YtnhafphgkipldaaGreatDoor
