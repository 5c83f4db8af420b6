/- The reader's small methods: counts, and the fields of records. Printed by gen_rd2.py. Conditions: what is asked for lies within the bytes. -/
import Derived.Test.YtnhafphgkipldaaGreatDoorRd
import Derived.Laws.Cover3
namespace Go.Proofs.YtnhafphgkipldaaGreatDoor
open Go Go.RowKit

section
variable {l fp : By} {fl : Int} {os : List Int} {w w' : World} {r g c : Nat}

set_option maxHeartbeats 400000 in
theorem nPkg_any (h : Rd l fp fl os w r g c) (a b n : Nat) (ha : os[2]? = some (a : Int)) (hb : os[1]? = some (b : Int)) (he : a = b + 8 * n) (hl : a < 2147483648) :
    Calls Tryz.prog 73 #[.pointer (some ⟨r, 0, none⟩)] w fun e w' => e = .returned (.int .i64 n) ∧ ∃ k, w' = w.drewN k := by
  have c1 : w.cell? ⟨r, 15, none⟩ = some (.int .u32 a) := h.off 2 a ha
  have c0 : w.cell? ⟨r, 14, none⟩ = some (.int .u32 b) := h.off 1 b hb
  have hba : (b : Int) ≤ a := by omega
  have hdv : ((a : Int) - b) / 8 = n := by omega
  have HE := Lib.hid he
  clear h ha hb he
  go_enter Tryz.func73, Tryz.ntmps73
  go_wp2_with fail
  go_quiet (fail)
  go_wp2
  go_ret
  exact ⟨ret_int hdv, _, rfl⟩

set_option maxHeartbeats 400000 in
theorem nFile_any (h : Rd l fp fl os w r g c) (a b n : Nat) (ha : os[3]? = some (a : Int)) (hb : os[2]? = some (b : Int)) (he : a = b + 8 * n) (hl : a < 2147483648) :
    Calls Tryz.prog 65 #[.pointer (some ⟨r, 0, none⟩)] w fun e w' => e = .returned (.int .i64 n) ∧ ∃ k, w' = w.drewN k := by
  have c1 : w.cell? ⟨r, 16, none⟩ = some (.int .u32 a) := h.off 3 a ha
  have c0 : w.cell? ⟨r, 15, none⟩ = some (.int .u32 b) := h.off 2 b hb
  have hba : (b : Int) ≤ a := by omega
  have hdv : ((a : Int) - b) / 8 = n := by omega
  have HE := Lib.hid he
  clear h ha hb he
  go_enter Tryz.func65, Tryz.ntmps65
  go_wp2_with fail
  go_quiet (fail)
  go_wp2
  go_ret
  exact ⟨ret_int hdv, _, rfl⟩

set_option maxHeartbeats 400000 in
theorem nSym_any (h : Rd l fp fl os w r g c) (a b n : Nat) (ha : os[4]? = some (a : Int)) (hb : os[3]? = some (b : Int)) (he : a = b + 21 * n) (hl : a < 2147483648) :
    Calls Tryz.prog 76 #[.pointer (some ⟨r, 0, none⟩)] w fun e w' => e = .returned (.int .i64 n) ∧ ∃ k, w' = w.drewN k := by
  have c1 : w.cell? ⟨r, 17, none⟩ = some (.int .u32 a) := h.off 4 a ha
  have c0 : w.cell? ⟨r, 16, none⟩ = some (.int .u32 b) := h.off 3 b hb
  have hba : (b : Int) ≤ a := by omega
  have hdv : ((a : Int) - b) / 21 = n := by omega
  have HE := Lib.hid he
  clear h ha hb he
  go_enter Tryz.func76, Tryz.ntmps76
  go_wp2_with fail
  go_quiet (fail)
  go_wp2
  go_ret
  exact ⟨ret_int hdv, _, rfl⟩

set_option maxHeartbeats 400000 in
theorem nHash64_any (h : Rd l fp fl os w r g c) (a b n : Nat) (ha : os[5]? = some (a : Int)) (hb : os[4]? = some (b : Int)) (he : a = b + 21 * n) (hl : a < 2147483648) :
    Calls Tryz.prog 77 #[.pointer (some ⟨r, 0, none⟩)] w fun e w' => e = .returned (.int .i64 n) ∧ ∃ k, w' = w.drewN k := by
  have c1 : w.cell? ⟨r, 18, none⟩ = some (.int .u32 a) := h.off 5 a ha
  have c0 : w.cell? ⟨r, 17, none⟩ = some (.int .u32 b) := h.off 4 b hb
  have hba : (b : Int) ≤ a := by omega
  have hdv : ((a : Int) - b) / 21 = n := by omega
  have HE := Lib.hid he
  clear h ha hb he
  go_enter Tryz.func77, Tryz.ntmps77
  go_wp2_with fail
  go_quiet (fail)
  go_wp2
  go_ret
  exact ⟨ret_int hdv, _, rfl⟩

set_option maxHeartbeats 400000 in
theorem nHashed_any (h : Rd l fp fl os w r g c) (a b n : Nat) (ha : os[6]? = some (a : Int)) (hb : os[5]? = some (b : Int)) (he : a = b + 21 * n) (hl : a < 2147483648) :
    Calls Tryz.prog 78 #[.pointer (some ⟨r, 0, none⟩)] w fun e w' => e = .returned (.int .i64 n) ∧ ∃ k, w' = w.drewN k := by
  have c1 : w.cell? ⟨r, 19, none⟩ = some (.int .u32 a) := h.off 6 a ha
  have c0 : w.cell? ⟨r, 18, none⟩ = some (.int .u32 b) := h.off 5 b hb
  have hba : (b : Int) ≤ a := by omega
  have hdv : ((a : Int) - b) / 21 = n := by omega
  have HE := Lib.hid he
  clear h ha hb he
  go_enter Tryz.func78, Tryz.ntmps78
  go_wp2_with fail
  go_quiet (fail)
  go_wp2
  go_ret
  exact ⟨ret_int hdv, _, rfl⟩

set_option maxHeartbeats 400000 in
theorem nOther_any (h : Rd l fp fl os w r g c) (a b n : Nat) (ha : os[7]? = some (a : Int)) (hb : os[6]? = some (b : Int)) (he : a = b + 21 * n) (hl : a < 2147483648) :
    Calls Tryz.prog 79 #[.pointer (some ⟨r, 0, none⟩)] w fun e w' => e = .returned (.int .i64 n) ∧ ∃ k, w' = w.drewN k := by
  have c1 : w.cell? ⟨r, 20, none⟩ = some (.int .u32 a) := h.off 7 a ha
  have c0 : w.cell? ⟨r, 19, none⟩ = some (.int .u32 b) := h.off 6 b hb
  have hba : (b : Int) ≤ a := by omega
  have hdv : ((a : Int) - b) / 21 = n := by omega
  have HE := Lib.hid he
  clear h ha hb he
  go_enter Tryz.func79, Tryz.ntmps79
  go_wp2_with fail
  go_quiet (fail)
  go_wp2
  go_ret
  exact ⟨ret_int hdv, _, rfl⟩

set_option maxHeartbeats 400000 in
theorem nRefs_any (h : Rd l fp fl os w r g c) (a b n : Nat) (ha : os[8]? = some (a : Int)) (hb : os[7]? = some (b : Int)) (he : a = b + 21 * n) (hl : a < 2147483648) :
    Calls Tryz.prog 80 #[.pointer (some ⟨r, 0, none⟩)] w fun e w' => e = .returned (.int .i64 n) ∧ ∃ k, w' = w.drewN k := by
  have c1 : w.cell? ⟨r, 21, none⟩ = some (.int .u32 a) := h.off 8 a ha
  have c0 : w.cell? ⟨r, 20, none⟩ = some (.int .u32 b) := h.off 7 b hb
  have hba : (b : Int) ≤ a := by omega
  have hdv : ((a : Int) - b) / 21 = n := by omega
  have HE := Lib.hid he
  clear h ha hb he
  go_enter Tryz.func80, Tryz.ntmps80
  go_wp2_with fail
  go_quiet (fail)
  go_wp2
  go_ret
  exact ⟨ret_int hdv, _, rfl⟩

set_option maxHeartbeats 400000 in
theorem nFlags_any (h : Rd l fp fl os w r g c) (a b n : Nat) (ha : os[9]? = some (a : Int)) (hb : os[8]? = some (b : Int)) (he : a = b + 10 * n) (hl : a < 2147483648) :
    Calls Tryz.prog 81 #[.pointer (some ⟨r, 0, none⟩)] w fun e w' => e = .returned (.int .i64 n) ∧ ∃ k, w' = w.drewN k := by
  have c1 : w.cell? ⟨r, 22, none⟩ = some (.int .u32 a) := h.off 9 a ha
  have c0 : w.cell? ⟨r, 21, none⟩ = some (.int .u32 b) := h.off 8 b hb
  have hba : (b : Int) ≤ a := by omega
  have hdv : ((a : Int) - b) / 10 = n := by omega
  have HE := Lib.hid he
  clear h ha hb he
  go_enter Tryz.func81, Tryz.ntmps81
  go_wp2_with fail
  go_quiet (fail)
  go_wp2
  go_ret
  exact ⟨ret_int hdv, _, rfl⟩

set_option maxHeartbeats 400000 in
theorem nNames_any (h : Rd l fp fl os w r g c) (a b n : Nat) (ha : os[18]? = some (a : Int)) (hb : os[17]? = some (b : Int)) (he : a = b + 16 * n) (hl : a < 2147483648) :
    Calls Tryz.prog 82 #[.pointer (some ⟨r, 0, none⟩)] w fun e w' => e = .returned (.int .i64 n) ∧ ∃ k, w' = w.drewN k := by
  have c1 : w.cell? ⟨r, 31, none⟩ = some (.int .u32 a) := h.off 18 a ha
  have c0 : w.cell? ⟨r, 30, none⟩ = some (.int .u32 b) := h.off 17 b hb
  have hba : (b : Int) ≤ a := by omega
  have hdv : ((a : Int) - b) / 16 = n := by omega
  have HE := Lib.hid he
  clear h ha hb he
  go_enter Tryz.func82, Tryz.ntmps82
  go_wp2_with fail
  go_quiet (fail)
  go_wp2
  go_ret
  exact ⟨ret_int hdv, _, rfl⟩

set_option maxHeartbeats 400000 in
set_option maxRecDepth 100000 in
theorem symOff_any (h : Rd l fp fl os w r g c) (a k : Nat) (ha : os[3]? = some (a : Int)) (ho : a + k * 21 < 2147483648) :
    Calls Tryz.prog 122 #[.pointer (some ⟨r, 0, none⟩), .int .u32 k] w fun e w' => e = .returned (.int .u32 ((a + k * 21 : Nat) : Int)) ∧ w' = w := by
  have c1 : w.cell? ⟨r, 16, none⟩ = some (.int .u32 a) := h.off 3 a ha
  clear h ha
  go_enter Tryz.func122, Tryz.ntmps122
  go_wp2_with fail
  go_ret
  exact ⟨ret_int (by omega), rfl⟩

set_option maxHeartbeats 400000 in
set_option maxRecDepth 100000 in
theorem symAt_any (h : Rd l fp fl os w r g c) (a k : Nat) (ha : os[3]? = some (a : Int)) (ho : a + k * 21 + 21 ≤ l.length) (hl : l.length < 2147483648) :
    Calls Tryz.prog 83 #[.pointer (some ⟨r, 0, none⟩), .int .u32 k] w fun e w' => e = .returned (.pointer (some ⟨g, a + k * 21, none⟩)) ∧ w' = w := by
  have c1 : w.cell? ⟨r, 16, none⟩ = some (.int .u32 a) := h.off 3 a ha
  have c0 := h.c0
  have hc := h.cap
  have H := Lib.hid h; have HA := Lib.hid ha
  clear h ha c1
  go_enter Tryz.func83, Tryz.ntmps83
  go_wp2_with fail
  refine (symOff_any H.out a k HA.out (by omega)).mono ?_
  rintro e w1 ⟨rfl, hw⟩
  rw [hw]
  clear hw
  generalize hq : a + k * 21 = q at ho ⊢
  have hat : (Instr.arrayAt 212 (.slice (some ⟨g, q, none⟩) (l.length - (q)) (c - (q)))).run Tryz.prog w = .ok (.pointer (some ⟨g, q, none⟩)) w := run_arrayAt (P := Tryz.prog) (w := w) 212 5 21 _ _ _ (by rfl) (by omega)
  go_wp2_with fail
  go_ret
  subst hq
  exact ⟨rfl, rfl⟩

set_option maxHeartbeats 400000 in
set_option maxRecDepth 100000 in
theorem flagAt_any (h : Rd l fp fl os w r g c) (a k : Nat) (ha : os[8]? = some (a : Int)) (ho : a + k * 10 + 10 ≤ l.length) (hl : l.length < 2147483648) :
    Calls Tryz.prog 95 #[.pointer (some ⟨r, 0, none⟩), .int .i64 k] w fun e w' => e = .returned (.pointer (some ⟨g, a + k * 10, none⟩)) ∧ w' = w := by
  have c1 : w.cell? ⟨r, 21, none⟩ = some (.int .u32 a) := h.off 8 a ha
  have c0 := h.c0
  have hc := h.cap
  clear h ha
  have hat : (Instr.arrayAt 189 (.slice (some ⟨g, a + k * 10, none⟩) (l.length - (a + k * 10)) (c - (a + k * 10)))).run Tryz.prog w = .ok (.pointer (some ⟨g, a + k * 10, none⟩)) w := run_arrayAt (P := Tryz.prog) (w := w) 189 5 10 _ _ _ (by rfl) (by omega)
  go_enter Tryz.func95, Tryz.ntmps95
  go_wp2_with fail
  go_ret
  exact ⟨rfl, rfl⟩

set_option maxHeartbeats 400000 in
set_option maxRecDepth 100000 in
theorem nameAt_any (h : Rd l fp fl os w r g c) (a k : Nat) (ha : os[17]? = some (a : Int)) (ho : a + k * 16 + 16 ≤ l.length) (hl : l.length < 2147483648) :
    Calls Tryz.prog 96 #[.pointer (some ⟨r, 0, none⟩), .int .i64 k] w fun e w' => e = .returned (.pointer (some ⟨g, a + k * 16, none⟩)) ∧ w' = w := by
  have c1 : w.cell? ⟨r, 30, none⟩ = some (.int .u32 a) := h.off 17 a ha
  have c0 := h.c0
  have hc := h.cap
  clear h ha
  have hat : (Instr.arrayAt 129 (.slice (some ⟨g, a + k * 16, none⟩) (l.length - (a + k * 16)) (c - (a + k * 16)))).run Tryz.prog w = .ok (.pointer (some ⟨g, a + k * 16, none⟩)) w := run_arrayAt (P := Tryz.prog) (w := w) 129 5 16 _ _ _ (by rfl) (by omega)
  go_enter Tryz.func96, Tryz.ntmps96
  go_wp2_with fail
  go_ret
  exact ⟨rfl, rfl⟩

set_option maxHeartbeats 400000 in
set_option maxRecDepth 100000 in
theorem hashAt_any (h : Rd l fp fl os w r g c) (a k : Nat) (ha : os[10]? = some (a : Int)) (ho : a + k * 16 + 16 ≤ l.length) (hl : l.length < 2147483648) :
    Calls Tryz.prog 101 #[.pointer (some ⟨r, 0, none⟩), .int .u32 k] w fun e w' => e = .returned (.pointer (some ⟨g, a + k * 16, none⟩)) ∧ w' = w := by
  have c1 : w.cell? ⟨r, 23, none⟩ = some (.int .u32 a) := h.off 10 a ha
  have c0 := h.c0
  have hc := h.cap
  clear h ha
  have hat : (Instr.arrayAt 173 (.slice (some ⟨g, a + k * 16, none⟩) (l.length - (a + k * 16)) (c - (a + k * 16)))).run Tryz.prog w = .ok (.pointer (some ⟨g, a + k * 16, none⟩)) w := run_arrayAt (P := Tryz.prog) (w := w) 173 5 16 _ _ _ (by rfl) (by omega)
  go_enter Tryz.func101, Tryz.ntmps101
  go_wp2_with fail
  go_ret
  exact ⟨rfl, rfl⟩

set_option maxHeartbeats 400000 in
set_option maxRecDepth 100000 in
theorem symABI_any (b o : Nat) (x : Int) (w : World) (hx : u16ok x) (hc : Cs w b (o + 8) (Lib.byteCells (le2 x))) :
    Calls Tryz.prog 125 #[.pointer (some ⟨b, o, none⟩)] w fun e w' => e = .returned (.int .u16 x) ∧ ∃ k, w' = w.drewN k := by
  skip
  have HC := Lib.hid hc
  clear hc
  go_enter Tryz.func125, Tryz.ntmps125
  go_wp2_with fail
  refine (le16_any b (o + 8) _ _ x w (by omega) hx.1 hx.2 HC.out).mono ?_
  rintro e w1 ⟨rfl, k, rfl⟩
  go_wp2
  go_ret
  exact ⟨rfl, k, rfl⟩

set_option maxHeartbeats 400000 in
set_option maxRecDepth 100000 in
theorem symKind_any (b o : Nat) (x : Int) (w : World) (hc : w.cell? ⟨b, o + 10, none⟩ = some (.int .u8 x)) :
    Calls Tryz.prog 126 #[.pointer (some ⟨b, o, none⟩)] w fun e w' => e = .returned (.int .u8 x) ∧ w' = w := by
  skip
  go_enter Tryz.func126, Tryz.ntmps126
  go_wp2_with fail
  go_ret
  exact ⟨rfl, rfl⟩

set_option maxHeartbeats 400000 in
set_option maxRecDepth 100000 in
theorem symFlag_any (b o : Nat) (x : Int) (w : World) (hc : w.cell? ⟨b, o + 11, none⟩ = some (.int .u8 x)) :
    Calls Tryz.prog 127 #[.pointer (some ⟨b, o, none⟩)] w fun e w' => e = .returned (.int .u8 x) ∧ w' = w := by
  skip
  go_enter Tryz.func127, Tryz.ntmps127
  go_wp2_with fail
  go_ret
  exact ⟨rfl, rfl⟩

set_option maxHeartbeats 400000 in
set_option maxRecDepth 100000 in
theorem symFlag2_any (b o : Nat) (x : Int) (w : World) (hc : w.cell? ⟨b, o + 12, none⟩ = some (.int .u8 x)) :
    Calls Tryz.prog 128 #[.pointer (some ⟨b, o, none⟩)] w fun e w' => e = .returned (.int .u8 x) ∧ w' = w := by
  skip
  go_enter Tryz.func128, Tryz.ntmps128
  go_wp2_with fail
  go_ret
  exact ⟨rfl, rfl⟩

set_option maxHeartbeats 400000 in
set_option maxRecDepth 100000 in
theorem symSize_any (b o : Nat) (x : Int) (w : World) (hx : u32ok x) (hc : Cs w b (o + 13) (Lib.byteCells (le4 x))) :
    Calls Tryz.prog 129 #[.pointer (some ⟨b, o, none⟩)] w fun e w' => e = .returned (.int .u32 x) ∧ ∃ k, w' = w.drewN k := by
  skip
  have HC := Lib.hid hc
  clear hc
  go_enter Tryz.func129, Tryz.ntmps129
  go_wp2_with fail
  refine (le32_any b (o + 13) _ _ x w (by omega) hx.1 hx.2 HC.out).mono ?_
  rintro e w1 ⟨rfl, k, rfl⟩
  go_wp2
  go_ret
  exact ⟨rfl, k, rfl⟩

set_option maxHeartbeats 400000 in
set_option maxRecDepth 100000 in
theorem symAlign_any (b o : Nat) (x : Int) (w : World) (hx : u32ok x) (hc : Cs w b (o + 17) (Lib.byteCells (le4 x))) :
    Calls Tryz.prog 130 #[.pointer (some ⟨b, o, none⟩)] w fun e w' => e = .returned (.int .u32 x) ∧ ∃ k, w' = w.drewN k := by
  skip
  have HC := Lib.hid hc
  clear hc
  go_enter Tryz.func130, Tryz.ntmps130
  go_wp2_with fail
  refine (le32_any b (o + 17) _ _ x w (by omega) hx.1 hx.2 HC.out).mono ?_
  rintro e w1 ⟨rfl, k, rfl⟩
  go_wp2
  go_ret
  exact ⟨rfl, k, rfl⟩

set_option maxHeartbeats 400000 in
set_option maxRecDepth 100000 in
theorem relSize_any (b o : Nat) (x : Int) (w : World) (hc : w.cell? ⟨b, o + 4, none⟩ = some (.int .u8 x)) :
    Calls Tryz.prog 135 #[.pointer (some ⟨b, o, none⟩)] w fun e w' => e = .returned (.int .u8 x) ∧ w' = w := by
  skip
  go_enter Tryz.func135, Tryz.ntmps135
  go_wp2_with fail
  go_ret
  exact ⟨rfl, rfl⟩

set_option maxHeartbeats 400000 in
set_option maxRecDepth 100000 in
theorem relKind_any (b o : Nat) (x : Int) (w : World) (hx : u16ok x) (hc : Cs w b (o + 5) (Lib.byteCells (le2 x))) :
    Calls Tryz.prog 136 #[.pointer (some ⟨b, o, none⟩)] w fun e w' => e = .returned (.int .u16 x) ∧ ∃ k, w' = w.drewN k := by
  skip
  have HC := Lib.hid hc
  clear hc
  go_enter Tryz.func136, Tryz.ntmps136
  go_wp2_with fail
  refine (le16_any b (o + 5) _ _ x w (by omega) hx.1 hx.2 HC.out).mono ?_
  rintro e w1 ⟨rfl, k, rfl⟩
  go_wp2
  go_ret
  exact ⟨rfl, k, rfl⟩

set_option maxHeartbeats 400000 in
set_option maxRecDepth 100000 in
theorem auxKind_any (b o : Nat) (x : Int) (w : World) (hc : w.cell? ⟨b, o + 0, none⟩ = some (.int .u8 x)) :
    Calls Tryz.prog 141 #[.pointer (some ⟨b, o, none⟩)] w fun e w' => e = .returned (.int .u8 x) ∧ w' = w := by
  rw [Nat.add_zero] at hc
  go_enter Tryz.func141, Tryz.ntmps141
  go_wp2_with fail
  go_ret
  exact ⟨rfl, rfl⟩

set_option maxHeartbeats 400000 in
set_option maxRecDepth 100000 in
theorem flgFlag_any (b o : Nat) (x : Int) (w : World) (hc : w.cell? ⟨b, o + 8, none⟩ = some (.int .u8 x)) :
    Calls Tryz.prog 144 #[.pointer (some ⟨b, o, none⟩)] w fun e w' => e = .returned (.int .u8 x) ∧ w' = w := by
  skip
  go_enter Tryz.func144, Tryz.ntmps144
  go_wp2_with fail
  go_ret
  exact ⟨rfl, rfl⟩

set_option maxHeartbeats 400000 in
set_option maxRecDepth 100000 in
theorem flgFlag2_any (b o : Nat) (x : Int) (w : World) (hc : w.cell? ⟨b, o + 9, none⟩ = some (.int .u8 x)) :
    Calls Tryz.prog 145 #[.pointer (some ⟨b, o, none⟩)] w fun e w' => e = .returned (.int .u8 x) ∧ w' = w := by
  skip
  go_enter Tryz.func145, Tryz.ntmps145
  go_wp2_with fail
  go_ret
  exact ⟨rfl, rfl⟩
end

end Go.Proofs.YtnhafphgkipldaaGreatDoor
