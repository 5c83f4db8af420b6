/- The reader: what it holds, and the contracts of its first methods. Conditions: what is asked for lies within the bytes. -/
import Derived.Test.YtnhafphgkipldaaGreatDoorBf
import Derived.Laws.IdiomStrings
namespace Go.Proofs.YtnhafphgkipldaaGreatDoor
open Go Go.RowKit

/-- The bytes l hold s at o. -/
def At (l : By) (o : Nat) (s : By) : Prop := ∃ p r, l = p ++ s ++ r ∧ p.length = o
theorem At.le {l s : By} {o : Nat} (h : At l o s) : o + s.length ≤ l.length := by
  obtain ⟨p, r, rfl, rfl⟩ := h
  simp only [List.length_append]; omega
theorem At.sub {l p s r : By} {o : Nat} (h : At l o (p ++ s ++ r)) : At l (o + p.length) s := by
  obtain ⟨a, b, rfl, rfl⟩ := h
  exact ⟨a ++ p, r ++ b, by simp, by simp⟩
theorem At.left {l s r : By} {o : Nat} (h : At l o (s ++ r)) : At l o s := by
  have := At.sub (p := []) (by simpa using h)
  simpa using this
theorem At.right {l p s : By} {o : Nat} (h : At l o (p ++ s)) : At l (o + p.length) s := At.sub (r := []) (by simpa using h)
theorem At.cs {w : World} {g : Nat} {l s : By} {o : Nat} (h : At l o s) (hc : Cs w g 0 (Lib.byteCells l)) : Cs w g o (Lib.byteCells s) := by
  obtain ⟨p, r, rfl, rfl⟩ := h
  rw [bc_app, bc_app] at hc
  have := hc.mid
  rwa [bc_len, Nat.zero_add] at this
theorem At.of_has {l s : By} {o : Int} (h : Has l o s) : ∃ n : Nat, o = n ∧ At l n s := by
  obtain ⟨p, r, e, rfl⟩ := h
  exact ⟨p.length, rfl, p, r, e, rfl⟩

def rcells (g n c : Nat) (fp : By) (fl : Int) (os : List Int) : List Value := [.slice (some ⟨g, 0, none⟩) n c, .bool false, .int .u32 0] ++ hcells magic fp fl os
/-- Block r is a reader of the bytes l, with their header read. -/
structure Rd (l fp : By) (fl : Int) (os : List Int) (w : World) (r g c : Nat) : Prop where
  blk : Blk w r 196 (rcells g l.length c fp fl os).toArray
  cap : l.length ≤ c
  cs : Cs w g 0 (Lib.byteCells l)
  fpl : fp.length = 8
  osl : os.length = 19
section
variable {l fp : By} {fl : Int} {os : List Int} {w w' : World} {r g c : Nat}
theorem Rd.fr (h : Rd l fp fl os w r g c) (f : Fr [] w w') : Rd l fp fl os w' r g c := ⟨f.blk (by simp) h.blk, h.cap, f.cs (by simp) h.cs, h.fpl, h.osl⟩
theorem Rd.drew (h : Rd l fp fl os w r g c) : Rd l fp fl os w.drew r g c := h.fr ((Fr.refl _ _).drew)
theorem Rd.c0 (h : Rd l fp fl os w r g c) : w.cell? ⟨r, 0, none⟩ = some (.slice (some ⟨g, 0, none⟩) l.length c) := by rw [h.blk.cell]; rfl
theorem Rd.c1 (h : Rd l fp fl os w r g c) : w.cell? ⟨r, 1, none⟩ = some (.bool false) := by rw [h.blk.cell]; rfl
theorem rcells_part (g n c : Nat) (fp : By) (fl : Int) (os : List Int) : rcells g n c fp fl os = ([.slice (some ⟨g, 0, none⟩) n c, .bool false, .int .u32 0, .string magic] ++ Lib.byteCells fp ++ [.int .u32 fl]) ++ os.map (Value.int .u32 ·) := by simp [rcells, hcells]
theorem Rd.off (h : Rd l fp fl os w r g c) (j : Nat) (a : Int) (ha : os[j]? = some a) : w.cell? ⟨r, 13 + j, none⟩ = some (.int .u32 a) := by
  rw [h.blk.cell, rcells_part]
  have hl : ([Value.slice (some ⟨g, 0, none⟩) l.length c, .bool false, .int .u32 0, .string magic] ++ Lib.byteCells fp ++ [Value.int .u32 fl]).length = 13 := by simp [bc_len, h.fpl]
  rw [List.getElem?_toArray, List.getElem?_append_right (by omega), hl]
  simp [ha]
theorem Rd.flag (h : Rd l fp fl os w r g c) : w.cell? ⟨r, 12, none⟩ = some (.int .u32 fl) := by
  rw [h.blk.cell, rcells_part]
  have hl : ([Value.slice (some ⟨g, 0, none⟩) l.length c, .bool false, .int .u32 0, .string magic] ++ Lib.byteCells fp).length = 12 := by simp [bc_len, h.fpl]
  rw [List.getElem?_toArray, List.append_assoc, List.getElem?_append_right (by omega), hl]
  rfl
theorem Rd.fpc (h : Rd l fp fl os w r g c) : Cs w r 4 (Lib.byteCells fp) := h.blk.part (p := [.slice (some ⟨g, 0, none⟩) l.length c, .bool false, .int .u32 0, .string magic]) (s := Lib.byteCells fp) (q := .int .u32 fl :: os.map (Value.int .u32 ·)) (by simp [rcells, hcells])

set_option maxHeartbeats 400000 in
/-- BytesAt, of some bytes. -/
theorem bytesAt_any (h : Rd l fp fl os w r g c) (o n : Nat) (hn : 0 < n) (ho : o + n ≤ l.length) (hl : l.length < 2147483648) :
    Calls Tryz.prog 121 #[.pointer (some ⟨r, 0, none⟩), .int .u32 o, .int .i64 n] w fun e w' => e = .returned (.slice (some ⟨g, o, none⟩) n n) ∧ w' = w := by
  have c0 := h.c0
  have hc := h.cap
  clear h
  go_enter Tryz.func121, Tryz.ntmps121
  go_wp2_with fail
  go_ret
  rw [show o + n - o = n by omega]
  exact ⟨rfl, rfl⟩

set_option maxHeartbeats 400000 in
theorem uint32At_any (h : Rd l fp fl os w r g c) (o : Nat) (x : Int) (hx : u32ok x) (ho : At l o (le4 x)) (hl : l.length < 2147483648) :
    Calls Tryz.prog 131 #[.pointer (some ⟨r, 0, none⟩), .int .u32 o] w fun e w' => e = .returned (.int .u32 x) ∧ ∃ k, w' = w.drewN k := by
  have H := Lib.hid h; have HO := Lib.hid ho
  have hle := ho.le
  rw [le4_len] at hle
  clear h ho
  go_enter Tryz.func131, Tryz.ntmps131
  go_wp2_with fail
  refine (bytesAt_any H.out o 4 (by omega) hle hl).mono ?_
  rintro e w1 ⟨rfl, rfl⟩
  go_wp2_with fail
  refine (le32_any g o 4 4 x _ (by omega) hx.1 hx.2 (HO.out.cs H.out.cs)).mono ?_
  rintro e w2 ⟨rfl, k, rfl⟩
  go_wp2
  go_ret
  exact ⟨rfl, k, rfl⟩

set_option maxHeartbeats 400000 in
theorem uint64At_any (h : Rd l fp fl os w r g c) (o : Nat) (x : Int) (hx : u64ok x) (ho : At l o (le8 x)) (hl : l.length < 2147483648) :
    Calls Tryz.prog 146 #[.pointer (some ⟨r, 0, none⟩), .int .u32 o] w fun e w' => e = .returned (.int .u64 x) ∧ ∃ k, w' = w.drewN k := by
  have H := Lib.hid h; have HO := Lib.hid ho
  have hle := ho.le
  rw [le8_len] at hle
  clear h ho
  go_enter Tryz.func146, Tryz.ntmps146
  go_wp2_with fail
  refine (bytesAt_any H.out o 8 (by omega) hle hl).mono ?_
  rintro e w1 ⟨rfl, rfl⟩
  go_wp2_with fail
  refine (le64_any g o 8 8 x _ (by omega) (by omega) hx.1 hx.2 (HO.out.cs H.out.cs)).mono ?_
  rintro e w2 ⟨rfl, k, rfl⟩
  go_wp2
  go_ret
  exact ⟨rfl, k, rfl⟩

set_option maxHeartbeats 400000 in
set_option maxRecDepth 100000 in
theorem stringAt_any (h : Rd l fp fl os w r g c) (o : Nat) (s : ByteArray) (ho : At l o s.data.toList) (hl : l.length < 2147483648) :
    Calls Tryz.prog 124 #[.pointer (some ⟨r, 0, none⟩), .int .u32 o, .int .u32 s.size] w fun e w' => e = .returned (.string s) ∧ ∃ k, w' = w.drewN k := by
  have H := Lib.hid h; have HO := Lib.hid ho
  have hle := ho.le
  rw [str_len] at hle
  have c0 := h.c0
  have c1 := h.c1
  have hc := h.cap
  have hcv : ∀ cap, (convert 35 9 (.slice (some ⟨g, o, none⟩) s.size cap)).run Tryz.prog w = .ok (.string s) w := by
    intro cap
    have h1 := run_convert_bytes_back (P := Tryz.prog) w 35 9 5 ⟨g, o, none⟩ cap s.data.toList (by rfl) (by rfl) (by rfl) (fun j hj => by
      have := (ho.cs h.cs) j (.int .u8 (s.data.toList[j].toNat : Int)) (by rw [bc_get, List.getElem?_eq_getElem hj]; rfl)
      rw [Lib.addr_add]; exact this)
    rw [str_len] at h1
    exact h1
  have hcv0 : c = o → (convert 35 9 (.slice (some ⟨g, 0, none⟩) s.size 0)).run Tryz.prog w = .ok (.string s) w := by
    intro hco
    have h1 := run_convert_bytes_back (P := Tryz.prog) w 35 9 5 ⟨g, 0, none⟩ 0 s.data.toList (by rfl) (by rfl) (by rfl) (fun j hj => by rw [str_len] at hj; omega)
    rw [str_len] at h1
    exact h1
  clear h ho
  go_enter Tryz.func124, Tryz.ntmps124
  go_wp2_with fail
  all_goals go_ret
  all_goals exact ⟨rfl, 0, rfl⟩

set_option maxHeartbeats 400000 in
theorem stringRef_rd (h : Rd l fp fl os w r g c) (o p : Nat) (s : ByteArray) (ho : At l o (le4 s.size ++ le4 p)) (hs : At l p s.data.toList) (hl : l.length < 2147483648) :
    Calls Tryz.prog 120 #[.pointer (some ⟨r, 0, none⟩), .int .u32 o] w fun e w' => e = .returned (.string s) ∧ ∃ k, w' = w.drewN k := by
  have H := Lib.hid h; have HO := Lib.hid ho; have HS := Lib.hid hs
  have h1 := ho.le
  have h2 := hs.le
  rw [List.length_append, le4_len, le4_len] at h1
  rw [str_len] at h2
  clear h ho hs
  go_enter Tryz.func120, Tryz.ntmps120
  go_wp2_with fail
  refine (uint32At_any H.out o s.size ⟨by omega, by omega⟩ HO.out.left hl).mono ?_
  rintro e w1 ⟨rfl, k1, rfl⟩
  have H1 := Lib.hid (H.out.fr ((Fr.refl [] w).drewN k1))
  go_wp2_with fail
  refine (uint32At_any H1.out (o + 4) p ⟨by omega, by omega⟩ HO.out.right hl).mono ?_
  rintro e w2 ⟨rfl, k2, hw2⟩
  have e2 : ((w.drewN k1).drewN k2) = w.drewN (k1 + k2) := by simp [World.drewN, Nat.add_assoc]
  rw [e2] at hw2
  clear e2
  subst hw2
  have H2 := Lib.hid (H.out.fr ((Fr.refl [] w).drewN (k1 + k2)))
  go_wp2_with fail
  refine (stringAt_any H2.out p s HS.out hl).mono ?_
  rintro e w3 ⟨rfl, k3, hw3⟩
  have e3 : ((w.drewN (k1 + k2)).drewN k3) = w.drewN (k1 + k2 + k3) := by simp [World.drewN, Nat.add_assoc]
  rw [e3] at hw3
  clear e3
  subst hw3
  go_wp2
  go_ret
  exact ⟨rfl, _, rfl⟩
end

end Go.Proofs.YtnhafphgkipldaaGreatDoor
