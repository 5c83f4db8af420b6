/- The reader's records: their references, and the records told whole. Printed by gen_rd3.py. Conditions: what is asked for lies within the bytes. -/
import Derived.Test.YtnhafphgkipldaaGreatDoorRd2
import Derived.Deep.RegionHeld3
namespace Go.Proofs.YtnhafphgkipldaaGreatDoor
open Go Go.RowKit

set_option maxHeartbeats 1600000 in
set_option maxRecDepth 100000 in
theorem relRef_any (b o : Nat) (x y : Int) (w : World) (hx : u32ok x) (hy : u32ok y) (hcx : Cs w b (o + 15) (Lib.byteCells (le4 x))) (hcy : Cs w b (o + 19) (Lib.byteCells (le4 y))) :
    Calls Tryz.prog 138 #[.pointer (some ⟨b, o, none⟩)] w fun e w' => e = .returned (.agg #[.int .u32 x, .int .u32 y]) ∧ Fr [] w w' := by
  have B0 := Blk.new w 132 #[.int .u32 0, .int .u32 0]
  have F0 := (Fr.refl [] w).alloc (.cells #[.int .u32 0, .int .u32 0] 132)
  have HX := Lib.hid (F0.cs (by simp) hcx); have HY := Lib.hid (F0.cs (by simp) hcy)
  clear hcx hcy
  go_enter Tryz.func138, Tryz.ntmps138
  go_wp2_with fail
  generalize w.alloc (.cells #[.int .u32 0, .int .u32 0] 132) = w1 at B0 F0 HX HY ⊢
  have C0 : ∀ x, Fr [] w1 x → x.cell? ⟨w.heap.size, 0, none⟩ = some (.int .u32 0) := fun x h => h.cells1 (by simp) B0 0 _ rfl
  have C1 : ∀ x, Fr [] w1 x → x.cell? ⟨w.heap.size, 1, none⟩ = some (.int .u32 0) := fun x h => h.cells1 (by simp) B0 1 _ rfl
  have Z0 : ∀ x j, Fr [] w1 x → x.frozen? ⟨w.heap.size, j, none⟩ = false := fun x j h => (h.blk (by simp) B0).frozen j
  have KX : ∀ x1 n c, Fr [] w1 x1 → 4 ≤ n → Calls Tryz.prog 123 #[.slice (some ⟨b, (o + 15), none⟩) n c] x1 fun e w' => e = .returned (.int .u32 x) ∧ ∃ k, w' = x1.drewN k := fun x1 n c f hn => le32_any b (o + 15) n c x x1 hn hx.1 hx.2 (f.cs (by simp) HX.out)
  have KY : ∀ x1 n c, Fr [] w1 x1 → 4 ≤ n → Calls Tryz.prog 123 #[.slice (some ⟨b, (o + 19), none⟩) n c] x1 fun e w' => e = .returned (.int .u32 y) ∧ ∃ k, w' = x1.drewN k := fun x1 n c f hn => le32_any b (o + 19) n c y x1 hn hy.1 hy.2 (f.cs (by simp) HY.out)
  have RN : ∀ n, Fr [] w1 (w1.drewN n) := fun n => (Fr.refl [] w1).drewN n
  have RD : Fr [] w1 w1.drew := (Fr.refl [] w1).drew
  have RM : ∀ n, Fr [w.heap.size] w1 (w1.drewN n) := fun n => (Fr.refl _ w1).drewN n
  go_region_held3 (fun x => Fr [w.heap.size] w1 x) (first | exact RM _ | exact (Fr.refl _ w1).drew | exact ((RM _).set (.inl (by simp)) _).set (.inl (by simp)) _)
    (first | (go_at_call 123; (with_reducible refine Calls.mono (KX _ _ _ (by first | exact RN _ | exact RD) (by omega)) ?_); rintro e w' ⟨rfl, k, rfl⟩)
           | (go_at_call 123; (with_reducible refine Calls.mono (KY _ _ _ (by first | exact RN _ | exact RD) (by omega)) ?_); rintro e w' ⟨rfl, k, rfl⟩))
  rename_i ka hH
  have HB := Lib.hid (((B0.drewN (1 + ka + k)).set 0 (.int .u32 x)).set 1 (.int .u32 y))
  clear C0 C1 Z0 KX KY RN RD RM
  have HF := Lib.hid (((F0.mono (S' := [w.heap.size]) (by simp)).trans hH).mono (S' := []) (by simp))
  go_wp2_with fail
  exact bodyPost_ret (results_cell _ 2 132 rfl _ w.heap.size 0 rfl _ [.int .u32 x, .int .u32 y] (Tryz.isAgg132 _) (Tryz.sizeOf132 _) (by have := HB.out.all; simpa using this)) rfl ⟨rfl, HF.out⟩

set_option maxHeartbeats 1600000 in
set_option maxRecDepth 100000 in
theorem auxRef_any (b o : Nat) (x y : Int) (w : World) (hx : u32ok x) (hy : u32ok y) (hcx : Cs w b (o + 1) (Lib.byteCells (le4 x))) (hcy : Cs w b (o + 5) (Lib.byteCells (le4 y))) :
    Calls Tryz.prog 142 #[.pointer (some ⟨b, o, none⟩)] w fun e w' => e = .returned (.agg #[.int .u32 x, .int .u32 y]) ∧ Fr [] w w' := by
  have B0 := Blk.new w 132 #[.int .u32 0, .int .u32 0]
  have F0 := (Fr.refl [] w).alloc (.cells #[.int .u32 0, .int .u32 0] 132)
  have HX := Lib.hid (F0.cs (by simp) hcx); have HY := Lib.hid (F0.cs (by simp) hcy)
  clear hcx hcy
  go_enter Tryz.func142, Tryz.ntmps142
  go_wp2_with fail
  generalize w.alloc (.cells #[.int .u32 0, .int .u32 0] 132) = w1 at B0 F0 HX HY ⊢
  have C0 : ∀ x, Fr [] w1 x → x.cell? ⟨w.heap.size, 0, none⟩ = some (.int .u32 0) := fun x h => h.cells1 (by simp) B0 0 _ rfl
  have C1 : ∀ x, Fr [] w1 x → x.cell? ⟨w.heap.size, 1, none⟩ = some (.int .u32 0) := fun x h => h.cells1 (by simp) B0 1 _ rfl
  have Z0 : ∀ x j, Fr [] w1 x → x.frozen? ⟨w.heap.size, j, none⟩ = false := fun x j h => (h.blk (by simp) B0).frozen j
  have KX : ∀ x1 n c, Fr [] w1 x1 → 4 ≤ n → Calls Tryz.prog 123 #[.slice (some ⟨b, (o + 1), none⟩) n c] x1 fun e w' => e = .returned (.int .u32 x) ∧ ∃ k, w' = x1.drewN k := fun x1 n c f hn => le32_any b (o + 1) n c x x1 hn hx.1 hx.2 (f.cs (by simp) HX.out)
  have KY : ∀ x1 n c, Fr [] w1 x1 → 4 ≤ n → Calls Tryz.prog 123 #[.slice (some ⟨b, (o + 5), none⟩) n c] x1 fun e w' => e = .returned (.int .u32 y) ∧ ∃ k, w' = x1.drewN k := fun x1 n c f hn => le32_any b (o + 5) n c y x1 hn hy.1 hy.2 (f.cs (by simp) HY.out)
  have RN : ∀ n, Fr [] w1 (w1.drewN n) := fun n => (Fr.refl [] w1).drewN n
  have RD : Fr [] w1 w1.drew := (Fr.refl [] w1).drew
  have RM : ∀ n, Fr [w.heap.size] w1 (w1.drewN n) := fun n => (Fr.refl _ w1).drewN n
  go_region_held3 (fun x => Fr [w.heap.size] w1 x) (first | exact RM _ | exact (Fr.refl _ w1).drew | exact ((RM _).set (.inl (by simp)) _).set (.inl (by simp)) _)
    (first | (go_at_call 123; (with_reducible refine Calls.mono (KX _ _ _ (by first | exact RN _ | exact RD) (by omega)) ?_); rintro e w' ⟨rfl, k, rfl⟩)
           | (go_at_call 123; (with_reducible refine Calls.mono (KY _ _ _ (by first | exact RN _ | exact RD) (by omega)) ?_); rintro e w' ⟨rfl, k, rfl⟩))
  rename_i ka hH
  have HB := Lib.hid (((B0.drewN (1 + ka + k)).set 0 (.int .u32 x)).set 1 (.int .u32 y))
  clear C0 C1 Z0 KX KY RN RD RM
  have HF := Lib.hid (((F0.mono (S' := [w.heap.size]) (by simp)).trans hH).mono (S' := []) (by simp))
  go_wp2_with fail
  exact bodyPost_ret (results_cell _ 2 132 rfl _ w.heap.size 0 rfl _ [.int .u32 x, .int .u32 y] (Tryz.isAgg132 _) (Tryz.sizeOf132 _) (by have := HB.out.all; simpa using this)) rfl ⟨rfl, HF.out⟩

set_option maxHeartbeats 1600000 in
set_option maxRecDepth 100000 in
theorem flgRef_any (b o : Nat) (x y : Int) (w : World) (hx : u32ok x) (hy : u32ok y) (hcx : Cs w b o (Lib.byteCells (le4 x))) (hcy : Cs w b (o + 4) (Lib.byteCells (le4 y))) :
    Calls Tryz.prog 143 #[.pointer (some ⟨b, o, none⟩)] w fun e w' => e = .returned (.agg #[.int .u32 x, .int .u32 y]) ∧ Fr [] w w' := by
  have B0 := Blk.new w 132 #[.int .u32 0, .int .u32 0]
  have F0 := (Fr.refl [] w).alloc (.cells #[.int .u32 0, .int .u32 0] 132)
  have HX := Lib.hid (F0.cs (by simp) hcx); have HY := Lib.hid (F0.cs (by simp) hcy)
  clear hcx hcy
  go_enter Tryz.func143, Tryz.ntmps143
  go_wp2_with fail
  generalize w.alloc (.cells #[.int .u32 0, .int .u32 0] 132) = w1 at B0 F0 HX HY ⊢
  have C0 : ∀ x, Fr [] w1 x → x.cell? ⟨w.heap.size, 0, none⟩ = some (.int .u32 0) := fun x h => h.cells1 (by simp) B0 0 _ rfl
  have C1 : ∀ x, Fr [] w1 x → x.cell? ⟨w.heap.size, 1, none⟩ = some (.int .u32 0) := fun x h => h.cells1 (by simp) B0 1 _ rfl
  have Z0 : ∀ x j, Fr [] w1 x → x.frozen? ⟨w.heap.size, j, none⟩ = false := fun x j h => (h.blk (by simp) B0).frozen j
  have KX : ∀ x1 n c, Fr [] w1 x1 → 4 ≤ n → Calls Tryz.prog 123 #[.slice (some ⟨b, o, none⟩) n c] x1 fun e w' => e = .returned (.int .u32 x) ∧ ∃ k, w' = x1.drewN k := fun x1 n c f hn => le32_any b o n c x x1 hn hx.1 hx.2 (f.cs (by simp) HX.out)
  have KY : ∀ x1 n c, Fr [] w1 x1 → 4 ≤ n → Calls Tryz.prog 123 #[.slice (some ⟨b, (o + 4), none⟩) n c] x1 fun e w' => e = .returned (.int .u32 y) ∧ ∃ k, w' = x1.drewN k := fun x1 n c f hn => le32_any b (o + 4) n c y x1 hn hy.1 hy.2 (f.cs (by simp) HY.out)
  have RN : ∀ n, Fr [] w1 (w1.drewN n) := fun n => (Fr.refl [] w1).drewN n
  have RD : Fr [] w1 w1.drew := (Fr.refl [] w1).drew
  have RM : ∀ n, Fr [w.heap.size] w1 (w1.drewN n) := fun n => (Fr.refl _ w1).drewN n
  go_region_held3 (fun x => Fr [w.heap.size] w1 x) (first | exact RM _ | exact (Fr.refl _ w1).drew | exact ((RM _).set (.inl (by simp)) _).set (.inl (by simp)) _)
    (first | (go_at_call 123; (with_reducible refine Calls.mono (KX _ _ _ (by first | exact RN _ | exact RD) (by omega)) ?_); rintro e w' ⟨rfl, k, rfl⟩)
           | (go_at_call 123; (with_reducible refine Calls.mono (KY _ _ _ (by first | exact RN _ | exact RD) (by omega)) ?_); rintro e w' ⟨rfl, k, rfl⟩))
  rename_i ka hH
  have HB := Lib.hid (((B0.drewN (1 + ka + k)).set 0 (.int .u32 x)).set 1 (.int .u32 y))
  clear C0 C1 Z0 KX KY RN RD RM
  have HF := Lib.hid (((F0.mono (S' := [w.heap.size]) (by simp)).trans hH).mono (S' := []) (by simp))
  go_wp2_with fail
  exact bodyPost_ret (results_cell _ 2 132 rfl _ w.heap.size 0 rfl _ [.int .u32 x, .int .u32 y] (Tryz.isAgg132 _) (Tryz.sizeOf132 _) (by have := HB.out.all; simpa using this)) rfl ⟨rfl, HF.out⟩

set_option maxHeartbeats 1600000 in
set_option maxRecDepth 100000 in
theorem namRef_any (b o : Nat) (x y : Int) (w : World) (hx : u32ok x) (hy : u32ok y) (hcx : Cs w b o (Lib.byteCells (le4 x))) (hcy : Cs w b (o + 4) (Lib.byteCells (le4 y))) :
    Calls Tryz.prog 98 #[.pointer (some ⟨b, o, none⟩)] w fun e w' => e = .returned (.agg #[.int .u32 x, .int .u32 y]) ∧ Fr [] w w' := by
  have B0 := Blk.new w 132 #[.int .u32 0, .int .u32 0]
  have F0 := (Fr.refl [] w).alloc (.cells #[.int .u32 0, .int .u32 0] 132)
  have HX := Lib.hid (F0.cs (by simp) hcx); have HY := Lib.hid (F0.cs (by simp) hcy)
  clear hcx hcy
  go_enter Tryz.func98, Tryz.ntmps98
  go_wp2_with fail
  generalize w.alloc (.cells #[.int .u32 0, .int .u32 0] 132) = w1 at B0 F0 HX HY ⊢
  have C0 : ∀ x, Fr [] w1 x → x.cell? ⟨w.heap.size, 0, none⟩ = some (.int .u32 0) := fun x h => h.cells1 (by simp) B0 0 _ rfl
  have C1 : ∀ x, Fr [] w1 x → x.cell? ⟨w.heap.size, 1, none⟩ = some (.int .u32 0) := fun x h => h.cells1 (by simp) B0 1 _ rfl
  have Z0 : ∀ x j, Fr [] w1 x → x.frozen? ⟨w.heap.size, j, none⟩ = false := fun x j h => (h.blk (by simp) B0).frozen j
  have KX : ∀ x1 n c, Fr [] w1 x1 → 4 ≤ n → Calls Tryz.prog 123 #[.slice (some ⟨b, o, none⟩) n c] x1 fun e w' => e = .returned (.int .u32 x) ∧ ∃ k, w' = x1.drewN k := fun x1 n c f hn => le32_any b o n c x x1 hn hx.1 hx.2 (f.cs (by simp) HX.out)
  have KY : ∀ x1 n c, Fr [] w1 x1 → 4 ≤ n → Calls Tryz.prog 123 #[.slice (some ⟨b, (o + 4), none⟩) n c] x1 fun e w' => e = .returned (.int .u32 y) ∧ ∃ k, w' = x1.drewN k := fun x1 n c f hn => le32_any b (o + 4) n c y x1 hn hy.1 hy.2 (f.cs (by simp) HY.out)
  have RN : ∀ n, Fr [] w1 (w1.drewN n) := fun n => (Fr.refl [] w1).drewN n
  have RD : Fr [] w1 w1.drew := (Fr.refl [] w1).drew
  have RM : ∀ n, Fr [w.heap.size] w1 (w1.drewN n) := fun n => (Fr.refl _ w1).drewN n
  go_region_held3 (fun x => Fr [w.heap.size] w1 x) (first | exact RM _ | exact (Fr.refl _ w1).drew | exact ((RM _).set (.inl (by simp)) _).set (.inl (by simp)) _)
    (first | (go_at_call 123; (with_reducible refine Calls.mono (KX _ _ _ (by first | exact RN _ | exact RD) (by omega)) ?_); rintro e w' ⟨rfl, k, rfl⟩)
           | (go_at_call 123; (with_reducible refine Calls.mono (KY _ _ _ (by first | exact RN _ | exact RD) (by omega)) ?_); rintro e w' ⟨rfl, k, rfl⟩))
  rename_i ka hH
  have HB := Lib.hid (((B0.drewN (1 + ka + k)).set 0 (.int .u32 x)).set 1 (.int .u32 y))
  clear C0 C1 Z0 KX KY RN RD RM
  have HF := Lib.hid (((F0.mono (S' := [w.heap.size]) (by simp)).trans hH).mono (S' := []) (by simp))
  go_wp2_with fail
  exact bodyPost_ret (results_cell _ 2 132 rfl _ w.heap.size 0 rfl _ [.int .u32 x, .int .u32 y] (Tryz.isAgg132 _) (Tryz.sizeOf132 _) (by have := HB.out.all; simpa using this)) rfl ⟨rfl, HF.out⟩

theorem toFr {w w' : World} {e : Ending} {v : Value} (h : e = .returned v ∧ ∃ k, w' = w.drewN k) : e = .returned v ∧ Fr [] w w' := by
  obtain ⟨h1, k, rfl⟩ := h
  exact ⟨h1, (Fr.refl [] w).drewN k⟩
theorem toFr0 {w w' : World} {e : Ending} {v : Value} (h : e = .returned v ∧ w' = w) : e = .returned v ∧ Fr [] w w' := by
  obtain ⟨h1, rfl⟩ := h
  exact ⟨h1, Fr.refl [] _⟩
theorem byte_at {w : World} {b o : Nat} {p r : By} {x : Int} (hx : u8ok x) (hc : Cs w b o (Lib.byteCells (p ++ [b8 x] ++ r))) : w.cell? ⟨b, o + p.length, none⟩ = some (.int .u8 x) := by
  rw [bc_app, bc_app] at hc
  have h1 := hc.mid.at0 (v := .int .u8 ((b8 x).toNat : Int)) (r := [])
  rw [bc_len, b8_val, u8v hx] at h1
  exact h1
theorem cs_at {w : World} {b o : Nat} {p s r : By} (hc : Cs w b o (Lib.byteCells (p ++ s ++ r))) : Cs w b (o + p.length) (Lib.byteCells s) := by
  rw [bc_app, bc_app] at hc
  have h1 := hc.mid
  rwa [bc_len] at h1
theorem sy_parts {w : World} {b o : Nat} {s : Sy} (hs : s.ok) (hc : Cs w b o (Lib.byteCells s.enc)) : Cs w b o (Lib.byteCells (le2 s.abi)) ∧ w.cell? ⟨b, o + 2, none⟩ = some (.int .u8 s.kind) ∧ w.cell? ⟨b, o + 3, none⟩ = some (.int .u8 s.flag) ∧ w.cell? ⟨b, o + 4, none⟩ = some (.int .u8 s.flag2) ∧ Cs w b (o + 5) (Lib.byteCells (le4 s.size)) ∧ Cs w b (o + 9) (Lib.byteCells (le4 s.align)) := by
  obtain ⟨h1, h2, h3, h4, h5, h6⟩ := hs
  refine ⟨?_, ?_, ?_, ?_, ?_, ?_⟩
  · exact cs_at (p := []) (s := le2 s.abi) (r := [b8 s.kind, b8 s.flag, b8 s.flag2] ++ le4 s.size ++ le4 s.align) (by simpa [Sy.enc] using hc)
  · exact byte_at (p := le2 s.abi) (r := [b8 s.flag, b8 s.flag2] ++ le4 s.size ++ le4 s.align) h2 (by simpa [Sy.enc] using hc)
  · exact byte_at (p := le2 s.abi ++ [b8 s.kind]) (r := [b8 s.flag2] ++ le4 s.size ++ le4 s.align) h3 (by simpa [Sy.enc] using hc)
  · exact byte_at (p := le2 s.abi ++ [b8 s.kind, b8 s.flag]) (r := le4 s.size ++ le4 s.align) h4 (by simpa [Sy.enc] using hc)
  · exact cs_at (p := le2 s.abi ++ [b8 s.kind, b8 s.flag, b8 s.flag2]) (s := le4 s.size) (r := le4 s.align) (by simpa [Sy.enc] using hc)
  · exact cs_at (p := le2 s.abi ++ [b8 s.kind, b8 s.flag, b8 s.flag2] ++ le4 s.size) (s := le4 s.align) (r := []) (by simpa [Sy.enc] using hc)
theorem rel_parts {w : World} {b o : Nat} {s : Rel} (hs : s.ok) (hc : Cs w b o (Lib.byteCells s.enc)) : Cs w b o (Lib.byteCells (le4 s.off)) ∧ w.cell? ⟨b, o + 4, none⟩ = some (.int .u8 s.size) ∧ Cs w b (o + 5) (Lib.byteCells (le2 s.kind)) ∧ Cs w b (o + 7) (Lib.byteCells (le8 s.add)) ∧ Cs w b (o + 15) (Lib.byteCells (le4 s.ref.pkg)) ∧ Cs w b (o + 19) (Lib.byteCells (le4 s.ref.sym)) := by
  obtain ⟨h1, h2, h3, h4, h5⟩ := hs
  refine ⟨?_, ?_, ?_, ?_, ?_, ?_⟩
  · exact cs_at (p := []) (s := le4 s.off) (r := [b8 s.size] ++ le2 s.kind ++ le8 s.add ++ s.ref.enc) (by simpa [Rel.enc] using hc)
  · exact byte_at (p := le4 s.off) (r := le2 s.kind ++ le8 s.add ++ s.ref.enc) h2 (by simpa [Rel.enc] using hc)
  · exact cs_at (p := le4 s.off ++ [b8 s.size]) (s := le2 s.kind) (r := le8 s.add ++ s.ref.enc) (by simpa [Rel.enc] using hc)
  · exact cs_at (p := le4 s.off ++ [b8 s.size] ++ le2 s.kind) (s := le8 s.add) (r := s.ref.enc) (by simpa [Rel.enc] using hc)
  · exact cs_at (p := le4 s.off ++ [b8 s.size] ++ le2 s.kind ++ le8 s.add) (s := le4 s.ref.pkg) (r := le4 s.ref.sym) (by simpa [Rel.enc, Ref.enc] using hc)
  · exact cs_at (p := le4 s.off ++ [b8 s.size] ++ le2 s.kind ++ le8 s.add ++ le4 s.ref.pkg) (s := le4 s.ref.sym) (r := []) (by simpa [Rel.enc, Ref.enc] using hc)
theorem aux_parts {w : World} {b o : Nat} {s : Aux} (hs : s.ok) (hc : Cs w b o (Lib.byteCells s.enc)) : w.cell? ⟨b, o, none⟩ = some (.int .u8 s.kind) ∧ Cs w b (o + 1) (Lib.byteCells (le4 s.ref.pkg)) ∧ Cs w b (o + 5) (Lib.byteCells (le4 s.ref.sym)) := by
  obtain ⟨h1, h2⟩ := hs
  refine ⟨?_, ?_, ?_⟩
  · exact byte_at (p := []) (r := s.ref.enc) h1 (by simpa [Aux.enc] using hc)
  · exact cs_at (p := [b8 s.kind]) (s := le4 s.ref.pkg) (r := le4 s.ref.sym) (by simpa [Aux.enc, Ref.enc] using hc)
  · exact cs_at (p := [b8 s.kind] ++ le4 s.ref.pkg) (s := le4 s.ref.sym) (r := []) (by simpa [Aux.enc, Ref.enc] using hc)
theorem flg_parts {w : World} {b o : Nat} {s : Flg} (hs : s.ok) (hc : Cs w b o (Lib.byteCells s.enc)) : Cs w b o (Lib.byteCells (le4 s.ref.pkg)) ∧ Cs w b (o + 4) (Lib.byteCells (le4 s.ref.sym)) ∧ w.cell? ⟨b, o + 8, none⟩ = some (.int .u8 s.flag) ∧ w.cell? ⟨b, o + 9, none⟩ = some (.int .u8 s.flag2) := by
  obtain ⟨h1, h2, h3⟩ := hs
  refine ⟨?_, ?_, ?_, ?_⟩
  · exact cs_at (p := []) (s := le4 s.ref.pkg) (r := le4 s.ref.sym ++ [b8 s.flag, b8 s.flag2]) (by simpa [Flg.enc, Ref.enc] using hc)
  · exact cs_at (p := le4 s.ref.pkg) (s := le4 s.ref.sym) (r := [b8 s.flag, b8 s.flag2]) (by simpa [Flg.enc, Ref.enc] using hc)
  · exact byte_at (p := s.ref.enc) (r := [b8 s.flag2]) h2 (by simpa [Flg.enc] using hc)
  · exact byte_at (p := s.ref.enc ++ [b8 s.flag]) (r := []) h3 (by simpa [Flg.enc] using hc)

set_option maxHeartbeats 1600000 in
set_option maxRecDepth 100000 in
theorem relOff_any (b o : Nat) (x : Int) (w : World) (hx : i32ok x) (hc : Cs w b o (Lib.byteCells (le4 x))) :
    Calls Tryz.prog 134 #[.pointer (some ⟨b, o, none⟩)] w fun e w' => e = .returned (.int .i32 x) ∧ ∃ k, w' = w.drewN k := by
  rw [← le4_mod] at hc
  obtain ⟨y, hy⟩ : ∃ y, y = x % 4294967296 := ⟨_, rfl⟩
  rw [← hy] at hc
  have HC := Lib.hid hc; have HX := Lib.hid hx; have HY := Lib.hid hy
  clear hc hx hy
  go_enter Tryz.func134, Tryz.ntmps134
  go_wp2_with fail
  refine (le32_any b o _ _ y w (by omega) (by have := HY.out; omega) (by have := HY.out; omega) HC.out).mono ?_
  rintro e w1 ⟨rfl, k, rfl⟩
  go_wp2
  go_ret
  exact ⟨ret_int (by have h1 := HY.out; have h2 := HX.out; unfold i32ok at h2; simp only [wrap32]; omega), k, rfl⟩
set_option maxHeartbeats 1600000 in
set_option maxRecDepth 100000 in
theorem relAdd_any (b o : Nat) (x : Int) (w : World) (hx : i64ok x) (hc : Cs w b (o + 7) (Lib.byteCells (le8 x))) :
    Calls Tryz.prog 137 #[.pointer (some ⟨b, o, none⟩)] w fun e w' => e = .returned (.int .i64 x) ∧ ∃ k, w' = w.drewN k := by
  rw [← le8_mod] at hc
  obtain ⟨y, hy⟩ : ∃ y, y = x % 18446744073709551616 := ⟨_, rfl⟩
  rw [← hy] at hc
  have HC := Lib.hid hc; have HX := Lib.hid hx; have HY := Lib.hid hy
  clear hc hx hy
  go_enter Tryz.func137, Tryz.ntmps137
  go_wp2_with fail
  refine (le64_any b (o + 7) _ _ y w (by omega) (by omega) (by have := HY.out; omega) (by have := HY.out; omega) HC.out).mono ?_
  rintro e w1 ⟨rfl, k, rfl⟩
  go_wp2
  go_ret
  exact ⟨ret_int (by have h1 := HY.out; have h2 := HX.out; unfold i64ok at h2; simp only [wrap64]; omega), k, rfl⟩
set_option maxHeartbeats 1600000 in
set_option maxRecDepth 100000 in
theorem told_any (x y : Int) (w : World) : Calls Tryz.prog 97 #[.agg #[.int .u32 x, .int .u32 y]] w fun e w' => e = .returned (.agg #[.int .u32 x, .int .u32 y]) ∧ Fr [] w w' := by
  go_enter Tryz.func97, Tryz.ntmps97
  go_wp2
  exact bodyPost_ret (v := .agg #[.int .u32 x, .int .u32 y]) (by simp [results, Tryz.results97, go_sem]) rfl ⟨rfl, ((Fr.refl [] w).alloc _).alloc _⟩
end Go.Proofs.YtnhafphgkipldaaGreatDoor
