/- The reader's look-ups: names, counts by an index block, data, hashes, flags. Printed by gen_rd5.py. Conditions: what is asked for lies within the bytes. -/
import Derived.Test.YtnhafphgkipldaaGreatDoorRd4
namespace Go.Proofs.YtnhafphgkipldaaGreatDoor
open Go Go.RowKit

section
variable {l fp : By} {fl : Int} {os : List Int} {w w' : World} {r g c : Nat}
theorem At.cs' {l s : By} {o : Nat} (h : At l o s) (H : Rd l fp fl os w r g c) : Cs w g o (Lib.byteCells s) := h.cs H.cs

set_option maxHeartbeats 800000 in
set_option maxRecDepth 100000 in
theorem symName_any (h : Rd l fp fl os w r g c) (o p : Nat) (s : ByteArray) (ho : At l o (le4 s.size ++ le4 p)) (hs : At l p s.data.toList) (hl : l.length < 2147483648) :
    Calls Tryz.prog 84 #[.pointer (some ⟨g, o, none⟩), .pointer (some ⟨r, 0, none⟩)] w fun e w' => e = .returned (.string s) ∧ Fr [] w w' := by
  have H := Lib.hid h; have HO := Lib.hid ho; have HS := Lib.hid hs
  have h1 := ho.le
  have h2 := hs.le
  rw [List.length_append, le4_len, le4_len] at h1
  rw [str_len] at h2
  clear h ho hs
  go_enter Tryz.func84, Tryz.ntmps84
  go_wp2_with fail
  refine ((le32_any g o _ _ s.size w (by omega) (by omega) (by omega) (HO.out.left.cs' H.out)).mono fun _ _ h => toFr h).mono ?_
  rintro e x1 ⟨rfl, f1⟩
  have H1 := Lib.hid (H.out.fr f1); have F1 := Lib.hid f1
  clear f1
  go_wp2_with fail
  refine ((le32_any g (o + 4) _ _ p x1 (by omega) (by omega) (by omega) (HO.out.right.cs' H1.out)).mono fun _ _ h => toFr h).mono ?_
  rintro e x2 ⟨rfl, f2⟩
  have H2 := Lib.hid (H1.out.fr f2); have F2 := Lib.hid (F1.out.trans f2)
  clear f2
  go_wp2_with fail
  refine ((stringAt_any H2.out p s HS.out hl).mono fun _ _ h => toFr h).mono ?_
  rintro e x3 ⟨rfl, f3⟩
  have F3 := Lib.hid (F2.out.trans f3)
  clear f3
  go_wp2
  go_ret
  exact ⟨rfl, F3.out⟩

set_option maxHeartbeats 800000 in
set_option maxRecDepth 100000 in
theorem namName_rd (h : Rd l fp fl os w r g c) (o p : Nat) (s : ByteArray) (ho : At l (o + 8) (le4 s.size ++ le4 p)) (hs : At l p s.data.toList) (hl : l.length < 2147483648) :
    Calls Tryz.prog 99 #[.pointer (some ⟨g, o, none⟩), .pointer (some ⟨r, 0, none⟩)] w fun e w' => e = .returned (.string s) ∧ Fr [] w w' := by
  have H := Lib.hid h; have HO := Lib.hid ho; have HS := Lib.hid hs
  have h1 := ho.le
  have h2 := hs.le
  rw [List.length_append, le4_len, le4_len] at h1
  rw [str_len] at h2
  clear h ho hs
  go_enter Tryz.func99, Tryz.ntmps99
  go_wp2_with fail
  refine ((le32_any g (o + 8) _ _ s.size w (by omega) (by omega) (by omega) (HO.out.left.cs' H.out)).mono fun _ _ h => toFr h).mono ?_
  rintro e x1 ⟨rfl, f1⟩
  have H1 := Lib.hid (H.out.fr f1); have F1 := Lib.hid f1
  clear f1
  go_wp2_with fail
  refine ((le32_any g (o + 12) _ _ p x1 (by omega) (by omega) (by omega) (HO.out.right.cs' H1.out)).mono fun _ _ h => toFr h).mono ?_
  rintro e x2 ⟨rfl, f2⟩
  have H2 := Lib.hid (H1.out.fr f2); have F2 := Lib.hid (F1.out.trans f2)
  clear f2
  go_wp2_with fail
  refine ((stringAt_any H2.out p s HS.out hl).mono fun _ _ h => toFr h).mono ?_
  rintro e x3 ⟨rfl, f3⟩
  have F3 := Lib.hid (F2.out.trans f3)
  clear f3
  go_wp2
  go_ret
  exact ⟨rfl, F3.out⟩

set_option maxHeartbeats 800000 in
set_option maxRecDepth 100000 in
theorem nameLen_any (h : Rd l fp fl os w r g c) (o n : Nat) (ho : At l o (le4 n)) (hn : n < 2147483648) :
    Calls Tryz.prog 86 #[.pointer (some ⟨g, o, none⟩), .pointer (some ⟨r, 0, none⟩)] w fun e w' => e = .returned (.int .i64 n) ∧ Fr [] w w' := by
  have H := Lib.hid h; have HO := Lib.hid ho
  clear h ho
  go_enter Tryz.func86, Tryz.ntmps86
  go_wp2_with fail
  refine ((le32_any g o _ _ n w (by omega) (by omega) (by omega) (HO.out.cs' H.out)).mono fun _ _ h => toFr h).mono ?_
  rintro e x1 ⟨rfl, f1⟩
  have F1 := Lib.hid f1
  clear f1
  go_wp2
  go_ret
  exact ⟨rfl, F1.out⟩

set_option maxHeartbeats 800000 in
set_option maxRecDepth 100000 in
theorem nReloc_any (h : Rd l fp fl os w r g c) (a i x y : Nat) (ha : os[11]? = some (a : Int)) (ho : At l (a + i * 4) (le4 x ++ le4 y)) (hxy : x ≤ y) (hy : y < 2147483648) (hl : l.length < 2147483648) :
    Calls Tryz.prog 133 #[.pointer (some ⟨r, 0, none⟩), .int .u32 i] w fun e w' => e = .returned (.int .i64 ((y - x : Nat) : Int)) ∧ Fr [] w w' := by
  have c1 : w.cell? ⟨r, 24, none⟩ = some (.int .u32 a) := h.off 11 a ha
  have H := Lib.hid h; have HO := Lib.hid ho
  have h1 := ho.le
  rw [List.length_append, le4_len, le4_len] at h1
  have hxyz : (x : Int) ≤ y := by omega
  clear h ho ha
  go_enter Tryz.func133, Tryz.ntmps133
  go_wp2_with fail
  have q := uint32At_any H.out (a + i * 4 + 4) y ⟨by omega, by omega⟩ HO.out.right hl
  rw [show ((a + i * 4 + 4 : Nat) : Int) = (a : Int) + i * 4 + 4 by omega] at q
  refine (q.mono fun _ _ h => toFr h).mono ?_
  clear q
  rintro e x1 ⟨rfl, f1⟩
  have H1 := Lib.hid (H.out.fr f1); have F1 := Lib.hid f1
  clear f1
  go_wp2_with fail
  have q := uint32At_any H1.out (a + i * 4) x ⟨by omega, by omega⟩ HO.out.left hl
  rw [show ((a + i * 4 : Nat) : Int) = (a : Int) + i * 4 by omega] at q
  refine (q.mono fun _ _ h => toFr h).mono ?_
  clear q
  rintro e x2 ⟨rfl, f2⟩
  have F2 := Lib.hid (F1.out.trans f2)
  clear f2
  go_wp2
  go_ret
  exact ⟨ret_int (by omega), F2.out⟩

set_option maxHeartbeats 800000 in
set_option maxRecDepth 100000 in
theorem nAux_any (h : Rd l fp fl os w r g c) (a i x y : Nat) (ha : os[12]? = some (a : Int)) (ho : At l (a + i * 4) (le4 x ++ le4 y)) (hxy : x ≤ y) (hy : y < 2147483648) (hl : l.length < 2147483648) :
    Calls Tryz.prog 140 #[.pointer (some ⟨r, 0, none⟩), .int .u32 i] w fun e w' => e = .returned (.int .i64 ((y - x : Nat) : Int)) ∧ Fr [] w w' := by
  have c1 : w.cell? ⟨r, 25, none⟩ = some (.int .u32 a) := h.off 12 a ha
  have H := Lib.hid h; have HO := Lib.hid ho
  have h1 := ho.le
  rw [List.length_append, le4_len, le4_len] at h1
  have hxyz : (x : Int) ≤ y := by omega
  clear h ho ha
  go_enter Tryz.func140, Tryz.ntmps140
  go_wp2_with fail
  have q := uint32At_any H.out (a + i * 4 + 4) y ⟨by omega, by omega⟩ HO.out.right hl
  rw [show ((a + i * 4 + 4 : Nat) : Int) = (a : Int) + i * 4 + 4 by omega] at q
  refine (q.mono fun _ _ h => toFr h).mono ?_
  clear q
  rintro e x1 ⟨rfl, f1⟩
  have H1 := Lib.hid (H.out.fr f1); have F1 := Lib.hid f1
  clear f1
  go_wp2_with fail
  have q := uint32At_any H1.out (a + i * 4) x ⟨by omega, by omega⟩ HO.out.left hl
  rw [show ((a + i * 4 : Nat) : Int) = (a : Int) + i * 4 by omega] at q
  refine (q.mono fun _ _ h => toFr h).mono ?_
  clear q
  rintro e x2 ⟨rfl, f2⟩
  have F2 := Lib.hid (F1.out.trans f2)
  clear f2
  go_wp2
  go_ret
  exact ⟨ret_int (by omega), F2.out⟩

set_option maxHeartbeats 800000 in
set_option maxRecDepth 100000 in
theorem dataSize_any (h : Rd l fp fl os w r g c) (a i x y : Nat) (ha : os[13]? = some (a : Int)) (ho : At l (a + i * 4) (le4 x ++ le4 y)) (hxy : x ≤ y) (hy : y < 2147483648) (hl : l.length < 2147483648) :
    Calls Tryz.prog 89 #[.pointer (some ⟨r, 0, none⟩), .int .u32 i] w fun e w' => e = .returned (.int .i64 ((y - x : Nat) : Int)) ∧ Fr [] w w' := by
  have c1 : w.cell? ⟨r, 26, none⟩ = some (.int .u32 a) := h.off 13 a ha
  have H := Lib.hid h; have HO := Lib.hid ho
  have h1 := ho.le
  rw [List.length_append, le4_len, le4_len] at h1
  have hxyz : (x : Int) ≤ y := by omega
  clear h ho ha
  go_enter Tryz.func89, Tryz.ntmps89
  go_wp2_with fail
  have q := uint32At_any H.out (a + i * 4 + 4) y ⟨by omega, by omega⟩ HO.out.right hl
  rw [show ((a + i * 4 + 4 : Nat) : Int) = (a : Int) + i * 4 + 4 by omega] at q
  refine (q.mono fun _ _ h => toFr h).mono ?_
  clear q
  rintro e x1 ⟨rfl, f1⟩
  have H1 := Lib.hid (H.out.fr f1); have F1 := Lib.hid f1
  clear f1
  go_wp2_with fail
  have q := uint32At_any H1.out (a + i * 4) x ⟨by omega, by omega⟩ HO.out.left hl
  rw [show ((a + i * 4 : Nat) : Int) = (a : Int) + i * 4 by omega] at q
  refine (q.mono fun _ _ h => toFr h).mono ?_
  clear q
  rintro e x2 ⟨rfl, f2⟩
  have F2 := Lib.hid (F1.out.trans f2)
  clear f2
  go_wp2
  go_ret
  exact ⟨ret_int (by omega), F2.out⟩

set_option maxHeartbeats 800000 in
set_option maxRecDepth 100000 in
theorem relocOff_any (h : Rd l fp fl os w r g c) (a d i x : Nat) (ha : os[11]? = some (a : Int)) (hd : os[14]? = some (d : Int)) (ho : At l (a + i * 4) (le4 x)) (hx : d + x * 23 < 2147483648) (hl : l.length < 2147483648) :
    Calls Tryz.prog 132 #[.pointer (some ⟨r, 0, none⟩), .int .u32 i, .int .i64 0] w fun e w' => e = .returned (.int .u32 ((d + x * 23 : Nat) : Int)) ∧ Fr [] w w' := by
  have c1 : w.cell? ⟨r, 24, none⟩ = some (.int .u32 a) := h.off 11 a ha
  have H := Lib.hid h; have HO := Lib.hid ho; have HD := Lib.hid hd
  have h1 := ho.le
  rw [le4_len] at h1
  clear h ho ha hd
  go_enter Tryz.func132, Tryz.ntmps132
  go_wp2_with fail
  have q := uint32At_any H.out (a + i * 4) x ⟨by omega, by omega⟩ HO.out hl
  rw [show ((a + i * 4 : Nat) : Int) = (a : Int) + i * 4 by omega] at q
  refine (q.mono fun _ _ h => toFr h).mono ?_
  clear q
  rintro e x1 ⟨rfl, f1⟩
  have H1 := Lib.hid (H.out.fr f1); have F1 := Lib.hid f1
  have c2 : x1.cell? ⟨r, 27, none⟩ = some (.int .u32 d) := H1.out.off 14 d HD.out
  clear f1 c1
  go_wp2_with fail
  go_ret
  exact ⟨ret_int (by omega), F1.out⟩

set_option maxHeartbeats 800000 in
set_option maxRecDepth 100000 in
theorem auxOff_any (h : Rd l fp fl os w r g c) (a d i x : Nat) (ha : os[12]? = some (a : Int)) (hd : os[15]? = some (d : Int)) (ho : At l (a + i * 4) (le4 x)) (hx : d + x * 9 < 2147483648) (hl : l.length < 2147483648) :
    Calls Tryz.prog 139 #[.pointer (some ⟨r, 0, none⟩), .int .u32 i, .int .i64 0] w fun e w' => e = .returned (.int .u32 ((d + x * 9 : Nat) : Int)) ∧ Fr [] w w' := by
  have c1 : w.cell? ⟨r, 25, none⟩ = some (.int .u32 a) := h.off 12 a ha
  have H := Lib.hid h; have HO := Lib.hid ho; have HD := Lib.hid hd
  have h1 := ho.le
  rw [le4_len] at h1
  clear h ho ha hd
  go_enter Tryz.func139, Tryz.ntmps139
  go_wp2_with fail
  have q := uint32At_any H.out (a + i * 4) x ⟨by omega, by omega⟩ HO.out hl
  rw [show ((a + i * 4 : Nat) : Int) = (a : Int) + i * 4 by omega] at q
  refine (q.mono fun _ _ h => toFr h).mono ?_
  clear q
  rintro e x1 ⟨rfl, f1⟩
  have H1 := Lib.hid (H.out.fr f1); have F1 := Lib.hid f1
  have c2 : x1.cell? ⟨r, 28, none⟩ = some (.int .u32 d) := H1.out.off 15 d HD.out
  clear f1 c1
  go_wp2_with fail
  go_ret
  exact ⟨ret_int (by omega), F1.out⟩

set_option maxHeartbeats 800000 in
set_option maxRecDepth 100000 in
theorem dataString_any (h : Rd l fp fl os w r g c) (a d i x : Nat) (s : ByteArray) (ha : os[13]? = some (a : Int)) (hd : os[16]? = some (d : Int)) (ho : At l (a + i * 4) (le4 x ++ le4 ((x + s.size : Nat) : Int))) (hs : At l (d + x) s.data.toList) (hl : l.length < 2147483648) :
    Calls Tryz.prog 88 #[.pointer (some ⟨r, 0, none⟩), .int .u32 i] w fun e w' => e = .returned (.string s) ∧ Fr [] w w' := by
  have c1 : w.cell? ⟨r, 26, none⟩ = some (.int .u32 a) := h.off 13 a ha
  have c2 : w.cell? ⟨r, 29, none⟩ = some (.int .u32 d) := h.off 16 d hd
  have H := Lib.hid h; have HO := Lib.hid ho; have HS := Lib.hid hs
  have h1 := ho.le
  have h2 := hs.le
  rw [List.length_append, le4_len, le4_len] at h1
  rw [str_len] at h2
  clear h ho ha hd hs
  go_enter Tryz.func88, Tryz.ntmps88
  go_wp2_with fail
  have q := uint32At_any H.out (a + i * 4) x ⟨by omega, by omega⟩ HO.out.left hl
  rw [show ((a + i * 4 : Nat) : Int) = (a : Int) + i * 4 by omega] at q
  refine (q.mono fun _ _ h => toFr h).mono ?_
  clear q
  rintro e x1 ⟨rfl, f1⟩
  have H1 := Lib.hid (H.out.fr f1); have F1 := Lib.hid f1
  clear f1 c1 c2
  go_wp2_with fail
  have q := uint32At_any H1.out (a + i * 4 + 4) ((x + s.size : Nat) : Int) ⟨by omega, by omega⟩ HO.out.right hl
  rw [show ((a + i * 4 + 4 : Nat) : Int) = (a : Int) + i * 4 + 4 by omega] at q
  obtain ⟨y, hy⟩ : ∃ y : Int, y = ((x + s.size : Nat) : Int) := ⟨_, rfl⟩
  rw [← hy] at q
  refine (q.mono fun _ _ h => toFr h).mono ?_
  clear q
  rintro e x2 ⟨rfl, f2⟩
  have H2 := Lib.hid (H1.out.fr f2); have F2 := Lib.hid (F1.out.trans f2)
  clear f2
  have hyx : (x : Int) ≤ y := by omega
  have hyx2 : y - x = s.size := by omega
  have hyb : y < 2147483648 := by omega
  clear hy
  go_wp2_with fail
  have q := stringAt_any H2.out (d + x) s HS.out hl
  rw [show ((d + x : Nat) : Int) = (d : Int) + x by omega] at q
  refine (q.mono fun _ _ h => toFr h).mono ?_
  clear q
  rintro e x3 ⟨rfl, f3⟩
  have F3 := Lib.hid (F2.out.trans f3)
  clear f3
  go_wp2
  go_ret
  exact ⟨rfl, F3.out⟩

set_option maxHeartbeats 800000 in
set_option maxRecDepth 100000 in
theorem bytesAt_zero (h : Rd l fp fl os w r g c) (o : Int) :
    Calls Tryz.prog 121 #[.pointer (some ⟨r, 0, none⟩), .int .u32 o, .int .i64 0] w fun e w' => e = .returned (.slice none 0 0) ∧ Fr [] w w' := by
  clear h
  go_enter Tryz.func121, Tryz.ntmps121
  go_wp2_with fail
  go_ret
  exact ⟨rfl, Fr.refl [] w⟩

set_option maxHeartbeats 800000 in
set_option maxRecDepth 100000 in
theorem data_any (h : Rd l fp fl os w r g c) (a d i x : Nat) (s : ByteArray) (ha : os[13]? = some (a : Int)) (hd : os[16]? = some (d : Int)) (ho : At l (a + i * 4) (le4 x ++ le4 ((x + s.size : Nat) : Int))) (hs : At l (d + x) s.data.toList) (hl : l.length < 2147483648) :
    Calls Tryz.prog 87 #[.pointer (some ⟨r, 0, none⟩), .int .u32 i] w fun e w' => ∃ v, e = .returned v ∧ (v = .slice none 0 0 ∨ ∃ o n c', v = .slice (some ⟨g, o, none⟩) n c' ∧ o + n ≤ l.length ∧ n = s.size) ∧ Fr [] w w' := by
  have c1 : w.cell? ⟨r, 26, none⟩ = some (.int .u32 a) := h.off 13 a ha
  have c2 : w.cell? ⟨r, 29, none⟩ = some (.int .u32 d) := h.off 16 d hd
  have H := Lib.hid h; have HO := Lib.hid ho; have HS := Lib.hid hs
  have h1 := ho.le
  have h2 := hs.le
  rw [List.length_append, le4_len, le4_len] at h1
  rw [str_len] at h2
  clear h ho ha hd hs
  go_enter Tryz.func87, Tryz.ntmps87
  go_wp2_with fail
  have q := uint32At_any H.out (a + i * 4) x ⟨by omega, by omega⟩ HO.out.left hl
  rw [show ((a + i * 4 : Nat) : Int) = (a : Int) + i * 4 by omega] at q
  refine (q.mono fun _ _ h => toFr h).mono ?_
  clear q
  rintro e x1 ⟨rfl, f1⟩
  have H1 := Lib.hid (H.out.fr f1); have F1 := Lib.hid f1
  clear f1 c1 c2
  go_wp2_with fail
  have q := uint32At_any H1.out (a + i * 4 + 4) ((x + s.size : Nat) : Int) ⟨by omega, by omega⟩ HO.out.right hl
  rw [show ((a + i * 4 + 4 : Nat) : Int) = (a : Int) + i * 4 + 4 by omega] at q
  obtain ⟨y, hy⟩ : ∃ y : Int, y = ((x + s.size : Nat) : Int) := ⟨_, rfl⟩
  rw [← hy] at q
  refine (q.mono fun _ _ h => toFr h).mono ?_
  clear q
  rintro e x2 ⟨rfl, f2⟩
  have H2 := Lib.hid (H1.out.fr f2); have F2 := Lib.hid (F1.out.trans f2)
  clear f2
  have hyx : (x : Int) ≤ y := by omega
  have hyx2 : y - x = s.size := by omega
  have hyb : y < 2147483648 := by omega
  clear hy
  go_wp2_with fail
  by_cases hz : s.size = 0
  · rw [hz]
    refine (bytesAt_zero H2.out _).mono ?_
    rintro e x3 ⟨rfl, f3⟩
    have F3 := Lib.hid (F2.out.trans f3)
    clear f3
    go_wp2
    go_ret
    exact ⟨_, rfl, .inl rfl, F3.out⟩
  · have q := bytesAt_any H2.out (d + x) s.size (by omega) h2 hl
    rw [show ((d + x : Nat) : Int) = (d : Int) + x by omega] at q
    refine (q.mono fun _ _ h => toFr0 h).mono ?_
    clear q
    rintro e x3 ⟨rfl, f3⟩
    have F3 := Lib.hid (F2.out.trans f3)
    clear f3
    go_wp2
    go_ret
    exact ⟨_, rfl, .inr ⟨_, _, _, rfl, h2, rfl⟩, F3.out⟩

set_option maxHeartbeats 800000 in
set_option maxRecDepth 100000 in
theorem pkgAt_any (h : Rd l fp fl os w r g c) (a i p : Nat) (s : ByteArray) (ha : os[1]? = some (a : Int)) (ho : At l (a + i * 8) (le4 s.size ++ le4 p)) (hs : At l p s.data.toList) (hl : l.length < 2147483648) :
    Calls Tryz.prog 74 #[.pointer (some ⟨r, 0, none⟩), .int .i64 i] w fun e w' => e = .returned (.string s) ∧ Fr [] w w' := by
  have c1 : w.cell? ⟨r, 14, none⟩ = some (.int .u32 a) := h.off 1 a ha
  have H := Lib.hid h; have HO := Lib.hid ho; have HS := Lib.hid hs
  have h1 := ho.le
  rw [List.length_append, le4_len, le4_len] at h1
  clear h ho ha hs
  go_enter Tryz.func74, Tryz.ntmps74
  go_wp2_with fail
  have q := stringRef_rd H.out (a + i * 8) p s HO.out HS.out hl
  rw [show ((a + i * 8 : Nat) : Int) = (a : Int) + i * 8 by omega] at q
  refine (q.mono fun _ _ h => toFr h).mono ?_
  clear q
  rintro e x1 ⟨rfl, f1⟩
  have F1 := Lib.hid f1
  clear f1
  go_wp2
  go_ret
  exact ⟨rfl, F1.out⟩

set_option maxHeartbeats 800000 in
set_option maxRecDepth 100000 in
theorem fileAt_any (h : Rd l fp fl os w r g c) (a i p : Nat) (s : ByteArray) (ha : os[2]? = some (a : Int)) (ho : At l (a + i * 8) (le4 s.size ++ le4 p)) (hs : At l p s.data.toList) (hl : l.length < 2147483648) :
    Calls Tryz.prog 66 #[.pointer (some ⟨r, 0, none⟩), .int .i64 i] w fun e w' => e = .returned (.string s) ∧ Fr [] w w' := by
  have c1 : w.cell? ⟨r, 15, none⟩ = some (.int .u32 a) := h.off 2 a ha
  have H := Lib.hid h; have HO := Lib.hid ho; have HS := Lib.hid hs
  have h1 := ho.le
  rw [List.length_append, le4_len, le4_len] at h1
  clear h ho ha hs
  go_enter Tryz.func66, Tryz.ntmps66
  go_wp2_with fail
  have q := stringRef_rd H.out (a + i * 8) p s HO.out HS.out hl
  rw [show ((a + i * 8 : Nat) : Int) = (a : Int) + i * 8 by omega] at q
  refine (q.mono fun _ _ h => toFr h).mono ?_
  clear q
  rintro e x1 ⟨rfl, f1⟩
  have F1 := Lib.hid f1
  clear f1
  go_wp2
  go_ret
  exact ⟨rfl, F1.out⟩

set_option maxHeartbeats 800000 in
set_option maxRecDepth 100000 in
theorem hash64At_any (h : Rd l fp fl os w r g c) (a i : Nat) (x : Int) (hx : u64ok x) (ha : os[9]? = some (a : Int)) (ho : At l (a + i * 8) (le8 x)) (hl : l.length < 2147483648) :
    Calls Tryz.prog 100 #[.pointer (some ⟨r, 0, none⟩), .int .u32 i] w fun e w' => e = .returned (.int .u64 x) ∧ Fr [] w w' := by
  have c1 : w.cell? ⟨r, 22, none⟩ = some (.int .u32 a) := h.off 9 a ha
  have H := Lib.hid h; have HO := Lib.hid ho
  have h1 := ho.le
  rw [le8_len] at h1
  clear h ho ha
  go_enter Tryz.func100, Tryz.ntmps100
  go_wp2_with fail
  have q := uint64At_any H.out (a + i * 8) x hx HO.out hl
  rw [show ((a + i * 8 : Nat) : Int) = (a : Int) + i * 8 by omega] at q
  refine (q.mono fun _ _ h => toFr h).mono ?_
  clear q
  rintro e x1 ⟨rfl, f1⟩
  have F1 := Lib.hid f1
  clear f1
  go_wp2
  go_ret
  exact ⟨rfl, F1.out⟩

set_option maxHeartbeats 800000 in
set_option maxRecDepth 100000 in
theorem rflags_any (h : Rd l fp fl os w r g c) :
    Calls Tryz.prog 68 #[.pointer (some ⟨r, 0, none⟩)] w fun e w' => e = .returned (.int .u32 fl) ∧ Fr [] w w' := by
  have c1 := h.flag
  clear h
  go_enter Tryz.func68, Tryz.ntmps68
  go_wp2_with fail
  go_ret
  exact ⟨rfl, Fr.refl [] w⟩

set_option maxHeartbeats 800000 in
set_option maxRecDepth 100000 in
theorem shared_any (h : Rd l fp fl os w r g c) :
    Calls Tryz.prog 69 #[.pointer (some ⟨r, 0, none⟩)] w fun e w' => ∃ b : Bool, e = .returned (.bool b) ∧ Fr [] w w' := by
  have H := Lib.hid h
  clear h
  go_enter Tryz.func69, Tryz.ntmps69
  go_wp2_with fail
  refine (rflags_any H.out).mono ?_
  rintro e x1 ⟨rfl, f1⟩
  have F1 := Lib.hid f1
  clear f1
  go_wp2
  go_ret
  exact ⟨_, rfl, F1.out⟩

set_option maxHeartbeats 800000 in
set_option maxRecDepth 100000 in
theorem fromAsm_any (h : Rd l fp fl os w r g c) :
    Calls Tryz.prog 70 #[.pointer (some ⟨r, 0, none⟩)] w fun e w' => ∃ b : Bool, e = .returned (.bool b) ∧ Fr [] w w' := by
  have H := Lib.hid h
  clear h
  go_enter Tryz.func70, Tryz.ntmps70
  go_wp2_with fail
  refine (rflags_any H.out).mono ?_
  rintro e x1 ⟨rfl, f1⟩
  have F1 := Lib.hid f1
  clear f1
  go_wp2
  go_ret
  exact ⟨_, rfl, F1.out⟩

set_option maxHeartbeats 800000 in
set_option maxRecDepth 100000 in
theorem unlink_any (h : Rd l fp fl os w r g c) :
    Calls Tryz.prog 71 #[.pointer (some ⟨r, 0, none⟩)] w fun e w' => ∃ b : Bool, e = .returned (.bool b) ∧ Fr [] w w' := by
  have H := Lib.hid h
  clear h
  go_enter Tryz.func71, Tryz.ntmps71
  go_wp2_with fail
  refine (rflags_any H.out).mono ?_
  rintro e x1 ⟨rfl, f1⟩
  have F1 := Lib.hid f1
  clear f1
  go_wp2
  go_ret
  exact ⟨_, rfl, F1.out⟩

set_option maxHeartbeats 800000 in
set_option maxRecDepth 100000 in
theorem std_any (h : Rd l fp fl os w r g c) :
    Calls Tryz.prog 72 #[.pointer (some ⟨r, 0, none⟩)] w fun e w' => ∃ b : Bool, e = .returned (.bool b) ∧ Fr [] w w' := by
  have H := Lib.hid h
  clear h
  go_enter Tryz.func72, Tryz.ntmps72
  go_wp2_with fail
  refine (rflags_any H.out).mono ?_
  rintro e x1 ⟨rfl, f1⟩
  have F1 := Lib.hid f1
  clear f1
  go_wp2
  go_ret
  exact ⟨_, rfl, F1.out⟩

set_option maxHeartbeats 800000 in
set_option maxRecDepth 100000 in
theorem print_any (h : Rd l fp fl os w r g c) :
    Calls Tryz.prog 67 #[.pointer (some ⟨r, 0, none⟩)] w fun e w' => e = .returned (.agg (Lib.byteCells fp).toArray) ∧ Fr [] w w' := by
  have B0 := Blk.new w 61 #[Value.int .u8 0, .int .u8 0, .int .u8 0, .int .u8 0, .int .u8 0, .int .u8 0, .int .u8 0, .int .u8 0]
  have F0 := (Fr.refl [] w).alloc (.cells #[Value.int .u8 0, .int .u8 0, .int .u8 0, .int .u8 0, .int .u8 0, .int .u8 0, .int .u8 0, .int .u8 0] 61)
  have HC := Lib.hid (h.fr F0).fpc
  have HL : Hid ((Lib.byteCells fp).length = 8) := Lib.hid (by rw [bc_len]; exact h.fpl)
  clear h
  go_enter Tryz.func67, Tryz.ntmps67
  go_wp2_with ((with_reducible refine selD 7 ?_); refine Hid.out ?_)
  refine Lib.hid ?_
  generalize w.alloc (.cells #[Value.int .u8 0, .int .u8 0, .int .u8 0, .int .u8 0, .int .u8 0, .int .u8 0, .int .u8 0, .int .u8 0] 61) = w1 at B0 F0 HC ⊢
  have HB := Lib.hid B0; have HF := Lib.hid F0
  clear B0 F0
  go_wp2_with (first | ((with_reducible refine selD 7 ?_); go_must (refine wpList_load_cs _ rfl 61 _ rfl r 4 (Lib.byteCells fp) rfl (Tryz.isAgg61 _) (by rw [HL.out]; exact Tryz.sizeOf61 _) HC.out ?_)) | ((with_reducible refine selS 61 ?_); go_must (refine wpList_store_all _ rfl 61 _ _ rfl _ 61 _ (Lib.byteCells fp) rfl rfl (by rw [HL.out]; exact Tryz.sizeOf61 _) HB.out (by rw [HL.out]; rfl) (bc_one fp) ?_; intro w3 hb3 hf3; refine Hid.out ?_)))
  refine Lib.hid ?_
  have HC3 := Lib.hid hb3.all
  have HH := Lib.hid ((HF.out.mono (S' := [w.heap.size]) (by simp)).trans hf3 |>.mono (S' := []) (by simp))
  clear hb3 hf3
  go_wp2_with fail
  exact bodyPost_ret (results_cell _ 2 61 rfl _ w.heap.size 0 rfl _ (Lib.byteCells fp) (Tryz.isAgg61 _) (by rw [HL.out]; exact Tryz.sizeOf61 _) (by have := HC3.out; simpa using this)) rfl ⟨rfl, HH.out⟩
end

end Go.Proofs.YtnhafphgkipldaaGreatDoor
