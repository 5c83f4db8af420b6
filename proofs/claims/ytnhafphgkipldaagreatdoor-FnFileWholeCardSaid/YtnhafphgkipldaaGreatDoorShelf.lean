/- The contracts of bytes.Buffer that the proof uses, laid at this dump by the kit's tool lay-plain.mjs (three of its theorems kept). -/
import Derived.Shelf.LaysM
import Derived.Shelf.Bytes.Bytes
import Derived.Shelf.Bytes.WriteStringKept
import Derived.Shelf.Bytes.WriteAny
import Derived.Test.YtnhafphgkipldaaGreatDoorProg
namespace Go.Proofs
open Go.Shelf
def Tryz.laysM183_ren : Go.Shelf.Ren := ⟨fun | 183 => 19 | n => n, fun | 130 => 65 | 37 => 35 | 0 => 0 | 93 => 69 | 3 => 3 | 5 => 5 | 91 => 67 | n => n, fun | n => n⟩
theorem Tryz.laysM183 : Go.Proofs.LaysM.n183 Tryz.prog Tryz.laysM183_ren := {
  mixed := by kernel_rfl
  f183 := Tryz.func19.trans (congrArg some (by kernel_rfl))
  t0 := Tryz.underlying0
  a0 := Tryz.isAgg0
  z0 := Tryz.sizeOf0
  v0 := Tryz.zeroValue0
  t3 := Tryz.underlying3
  a3 := Tryz.isAgg3
  z3 := Tryz.sizeOf3
  v3 := Tryz.zeroValue3
  t37 := Tryz.underlying35
  a37 := Tryz.isAgg35
  z37 := Tryz.sizeOf35
  v37 := Tryz.zeroValue35
  t93 := Tryz.underlying69
  a93 := Tryz.isAgg69
  z93 := Tryz.sizeOf69
  v93 := Tryz.zeroValue69
  t130 := Tryz.underlying65
  a130 := Tryz.isAgg65
  z130 := Tryz.sizeOf65
  v130 := Tryz.zeroValue65
  t5 := Tryz.underlying5
  a5 := Tryz.isAgg5
  z5 := Tryz.sizeOf5
  v5 := Tryz.zeroValue5
  t91 := Tryz.underlying67
  a91 := Tryz.isAgg67
  z91 := Tryz.sizeOf67
  v91 := Tryz.zeroValue67
  i0 := by kernel_rfl
  i3 := by kernel_rfl
  i5 := by kernel_rfl
  i37 := by kernel_rfl
  i91 := by kernel_rfl
  i93 := by kernel_rfl
  i130 := by kernel_rfl }
open Go.RowKit in
/-- (*bytes.Buffer).Bytes: a slice that owns the cells bs (World.ownsRow: nil where nothing was ever written). The world is as it was but for the count of draws. (Laid by the kit: one application.) -/
theorem Tryz.Buffer_Bytes (B b : Nat) (bs : List Value) (w : World) (h : Lib.IsBuffer 69 5 B b bs w) :
    Calls Tryz.prog 19 #[.pointer (some ⟨b, 0, none⟩)] w fun e w' => ∃ v, e = .returned v ∧ w'.ownsRow B 5 1 v bs.length bs ∧ ∃ n, w' = w.drewN n := Any.Buffer_Bytes Tryz.laysM183 B b bs w h
def Tryz.laysM178_ren : Go.Shelf.Ren := ⟨fun | 178 => 104 | 251 => 147 | 252 => 148 | 181 => 162 | 184 => 163 | 290 => 164 | 324 => 171 | n => n, fun | 130 => 65 | 9 => 9 | 3 => 3 | 75 => 179 | 0 => 0 | 93 => 69 | 91 => 67 | 131 => 207 | 4 => 4 | 37 => 35 | 20 => 20 | 80 => 226 | 5 => 5 | n => n, fun | 14 => 0 | n => n⟩
theorem Tryz.laysM178 : Go.Proofs.LaysM.n178 Tryz.prog Tryz.laysM178_ren := {
  mixed := by kernel_rfl
  f178 := Tryz.func104.trans (congrArg some (by kernel_rfl))
  f181 := Tryz.func162.trans (congrArg some (by kernel_rfl))
  f184 := Tryz.func163.trans (congrArg some (by kernel_rfl))
  f251 := Tryz.func147.trans (congrArg some (by kernel_rfl))
  f252 := Tryz.func148.trans (congrArg some (by kernel_rfl))
  f290 := Tryz.func164.trans (congrArg some (by kernel_rfl))
  f324 := Tryz.func171.trans (congrArg some (by kernel_rfl))
  t0 := Tryz.underlying0
  a0 := Tryz.isAgg0
  z0 := Tryz.sizeOf0
  v0 := Tryz.zeroValue0
  t3 := Tryz.underlying3
  a3 := Tryz.isAgg3
  z3 := Tryz.sizeOf3
  v3 := Tryz.zeroValue3
  t4 := Tryz.underlying4
  a4 := Tryz.isAgg4
  z4 := Tryz.sizeOf4
  v4 := Tryz.zeroValue4
  t9 := Tryz.underlying9
  a9 := Tryz.isAgg9
  z9 := Tryz.sizeOf9
  v9 := Tryz.zeroValue9
  t20 := Tryz.underlying20
  a20 := Tryz.isAgg20
  z20 := Tryz.sizeOf20
  v20 := Tryz.zeroValue20
  t37 := Tryz.underlying35
  a37 := Tryz.isAgg35
  z37 := Tryz.sizeOf35
  v37 := Tryz.zeroValue35
  t75 := Tryz.underlying179
  a75 := Tryz.isAgg179
  z75 := Tryz.sizeOf179
  v75 := Tryz.zeroValue179
  t91 := Tryz.underlying67
  a91 := Tryz.isAgg67
  z91 := Tryz.sizeOf67
  v91 := Tryz.zeroValue67
  t93 := Tryz.underlying69
  a93 := Tryz.isAgg69
  z93 := Tryz.sizeOf69
  v93 := Tryz.zeroValue69
  t130 := Tryz.underlying65
  a130 := Tryz.isAgg65
  z130 := Tryz.sizeOf65
  v130 := Tryz.zeroValue65
  t131 := Tryz.underlying207
  a131 := Tryz.isAgg207
  z131 := Tryz.sizeOf207
  v131 := Tryz.zeroValue207
  g14 := by kernel_rfl
  t5 := Tryz.underlying5
  a5 := Tryz.isAgg5
  z5 := Tryz.sizeOf5
  v5 := Tryz.zeroValue5
  t80 := Tryz.underlying226
  a80 := Tryz.isAgg226
  z80 := Tryz.sizeOf226
  v80 := Tryz.zeroValue226
  i0 := by kernel_rfl
  i3 := by kernel_rfl
  i4 := by kernel_rfl
  i5 := by kernel_rfl
  i9 := by kernel_rfl
  i20 := by kernel_rfl
  i37 := by kernel_rfl
  i75 := by kernel_rfl
  i80 := by kernel_rfl
  i91 := by kernel_rfl
  i93 := by kernel_rfl
  i130 := by kernel_rfl
  i131 := by kernel_rfl
  m14 := by kernel_rfl }
open Go.RowKit in
/-- (*bytes.Buffer).WriteString: the bytes of s stand behind what was there; the length of s and no error come back. (Laid by the kit: one application.) -/
theorem Tryz.Buffer_WriteString_kept (B b : Nat) (bs : List Value) (s : ByteArray) (w : World) (h : Lib.IsBuffer 69 5 B b bs w) (hBw : B ≤ w.heap.size) (h1 : ∀ v ∈ bs, v.oneCell' = true) (hlim : bs.length + s.size ≤ 140737488355328) :
    Calls Tryz.prog 104 #[.pointer (some ⟨b, 0, none⟩), .string s] w fun e w' => e = .returned (.tuple #[.int .i64 s.size, .nilIface]) ∧ Lib.IsBuffer 69 5 B b (bs ++ Lib.byteCells s.data.toList) w' ∧ Below B w w' ∧ Lib.OthersKept 5 (some b) w w' := Any.Buffer_WriteString_kept Tryz.laysM178 B b bs s w h hBw h1 hlim
def Tryz.laysM180_ren : Go.Shelf.Ren := ⟨fun | 180 => 105 | 251 => 147 | 252 => 148 | 181 => 162 | 184 => 163 | 290 => 164 | 324 => 171 | n => n, fun | 130 => 65 | 37 => 35 | 3 => 3 | 75 => 179 | 0 => 0 | 93 => 69 | 91 => 67 | 131 => 207 | 4 => 4 | 20 => 20 | 5 => 5 | 80 => 226 | 9 => 9 | n => n, fun | 14 => 0 | n => n⟩
theorem Tryz.laysM180 : Go.Proofs.LaysM.n180 Tryz.prog Tryz.laysM180_ren := {
  mixed := by kernel_rfl
  f180 := Tryz.func105.trans (congrArg some (by kernel_rfl))
  f181 := Tryz.func162.trans (congrArg some (by kernel_rfl))
  f184 := Tryz.func163.trans (congrArg some (by kernel_rfl))
  f251 := Tryz.func147.trans (congrArg some (by kernel_rfl))
  f252 := Tryz.func148.trans (congrArg some (by kernel_rfl))
  f290 := Tryz.func164.trans (congrArg some (by kernel_rfl))
  f324 := Tryz.func171.trans (congrArg some (by kernel_rfl))
  t0 := Tryz.underlying0
  a0 := Tryz.isAgg0
  z0 := Tryz.sizeOf0
  v0 := Tryz.zeroValue0
  t3 := Tryz.underlying3
  a3 := Tryz.isAgg3
  z3 := Tryz.sizeOf3
  v3 := Tryz.zeroValue3
  t4 := Tryz.underlying4
  a4 := Tryz.isAgg4
  z4 := Tryz.sizeOf4
  v4 := Tryz.zeroValue4
  t20 := Tryz.underlying20
  a20 := Tryz.isAgg20
  z20 := Tryz.sizeOf20
  v20 := Tryz.zeroValue20
  t37 := Tryz.underlying35
  a37 := Tryz.isAgg35
  z37 := Tryz.sizeOf35
  v37 := Tryz.zeroValue35
  t75 := Tryz.underlying179
  a75 := Tryz.isAgg179
  z75 := Tryz.sizeOf179
  v75 := Tryz.zeroValue179
  t91 := Tryz.underlying67
  a91 := Tryz.isAgg67
  z91 := Tryz.sizeOf67
  v91 := Tryz.zeroValue67
  t93 := Tryz.underlying69
  a93 := Tryz.isAgg69
  z93 := Tryz.sizeOf69
  v93 := Tryz.zeroValue69
  t130 := Tryz.underlying65
  a130 := Tryz.isAgg65
  z130 := Tryz.sizeOf65
  v130 := Tryz.zeroValue65
  t131 := Tryz.underlying207
  a131 := Tryz.isAgg207
  z131 := Tryz.sizeOf207
  v131 := Tryz.zeroValue207
  g14 := by kernel_rfl
  t5 := Tryz.underlying5
  a5 := Tryz.isAgg5
  z5 := Tryz.sizeOf5
  v5 := Tryz.zeroValue5
  t9 := Tryz.underlying9
  a9 := Tryz.isAgg9
  z9 := Tryz.sizeOf9
  v9 := Tryz.zeroValue9
  t80 := Tryz.underlying226
  a80 := Tryz.isAgg226
  z80 := Tryz.sizeOf226
  v80 := Tryz.zeroValue226
  i0 := by kernel_rfl
  i3 := by kernel_rfl
  i4 := by kernel_rfl
  i5 := by kernel_rfl
  i9 := by kernel_rfl
  i20 := by kernel_rfl
  i37 := by kernel_rfl
  i75 := by kernel_rfl
  i80 := by kernel_rfl
  i91 := by kernel_rfl
  i93 := by kernel_rfl
  i130 := by kernel_rfl
  i131 := by kernel_rfl
  m14 := by kernel_rfl }
open Go.RowKit in
/-- (*bytes.Buffer).Write: the bytes of p stand behind what was there; their number and no error come back. (Laid by the kit: one application.) -/
theorem Tryz.Buffer_Write_any (B b : Nat) (bs cs : List Value) (a : Addr) (n c : Nat) (w : World) (h : Lib.IsBuffer 69 5 B b bs w) (hBw : B ≤ w.heap.size) (h1 : ∀ v ∈ bs, v.oneCell' = true) (hn : cs.length = n) (hab : a.block ≠ b) (hsrc : ∀ j v, cs[j]? = some v → w.cell? (a.add j) = some v) (h1c : ∀ v ∈ cs, v.oneCell' = true) (hlim : bs.length + n ≤ 140737488355328) :
    Calls Tryz.prog 105 #[.pointer (some ⟨b, 0, none⟩), .slice (some a) n c] w fun e w' => e = .returned (.tuple #[.int .i64 n, .nilIface]) ∧ Lib.IsBuffer 69 5 B b (bs ++ cs) w' ∧ Below B w w' ∧ Lib.OthersKept 5 (some b) w w' := Any.Buffer_Write_any Tryz.laysM180 B b bs cs a n c w h hBw h1 hn hab hsrc h1c hlim
end Go.Proofs
