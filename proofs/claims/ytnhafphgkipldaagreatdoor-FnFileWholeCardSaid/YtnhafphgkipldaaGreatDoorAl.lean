/- (*goobj.Reader).Autolib. Conditions: the strings lie in the bytes. -/
import Derived.Test.YtnhafphgkipldaaGreatDoorPl
import Derived.Laws.CopyRow
namespace Go.Proofs.YtnhafphgkipldaaGreatDoor
open Go Go.RowKit

/-- The bytes l hold, from a on, the imports ss. -/
def Imps (l : By) (a : Nat) (ss : List Imp) : Prop := ∀ (k : Nat) (s : Imp), ss[k]? = some s → s.ok ∧ ∃ p : Nat, At l (a + k * 16) (le4 s.pkg.size ++ le4 p ++ s.fp) ∧ At l p s.pkg.data.toList
theorem imps_len (t : List Imp) (h : ∀ y ∈ t, y.ok) : (t.flatMap Imp.cells).length = t.length * 9 := by
  induction t with
  | nil => rfl
  | cons a s ih =>
    have h1 : a.fp.length = 8 := h a (by simp)
    simp only [List.flatMap_cons, List.length_append, Imp.cells, List.length_cons, bc_len, h1, ih (fun y hy => h y (by simp [hy]))]
    omega

theorem wrapU (x : Int) (h0 : 0 ≤ x) (h1 : x < 4294967296) : IntKind.u32.wrap x = x := by
  simp [IntKind.wrap, IntKind.bits, IntKind.signed]
  omega
set_option maxRecDepth 100000 in
/-- Eight bytes copied into a row. -/
theorem copy8 (w : World) (m : Nat) (T : TypeId) (off : Nat) (p z q : List Value) (fp : By) (g o : Nat) (hb : Blk w m T (p ++ z ++ q).toArray) (hp : p.length = off) (hz : z.length = 8) (hf : fp.length = 8) (hc : Cs w g o (Lib.byteCells fp)) (ty : TypeId) :
    (Builtin.copy_ #[35, 35] ty #[.slice (some ⟨m, off, none⟩) 8 8, .slice (some ⟨g, o, none⟩) 8 8]).run Tryz.prog w = .ok (goInt 8) (w.setRow m (p ++ Lib.byteCells fp ++ q).toArray) := by
  have hl : (Lib.byteCells fp).length = 8 := by rw [bc_len, hf]
  have h1 := run_copy_row (P := Tryz.prog) w 35 35 ty 5 m off 8 8 ⟨g, o, none⟩ 8 8 (p ++ z ++ q).toArray T (Lib.byteCells fp) (by rfl) (by kernel_rfl) hb (by rw [hl]; rfl) hc.addr (by rw [hl, List.size_toArray, List.length_append, List.length_append]; omega) (bc_one _)
  rw [hl] at h1
  rw [h1]
  have t1 : (p ++ z ++ q).toArray.toList.take off = p := by rw [List.toList_toArray, List.append_assoc, ← hp, List.take_left']; rfl
  have t2 : (p ++ z ++ q).toArray.toList.drop (off + 8) = q := by rw [List.toList_toArray, List.drop_left']; simp [hp, hz]
  rw [t1, t2]
  rfl

section
variable {l fp : By} {fl : Int} {os : List Int} {w w' : World} {r g c : Nat}
set_option maxHeartbeats 1600000 in
set_option maxRecDepth 100000 in
theorem autolib_any (h : Rd l fp fl os w r g c) (a b : Nat) (ss : List Imp) (ha : os[0]? = some (a : Int)) (hb : os[1]? = some (b : Int)) (hab : b = a + ss.length * 16) (hs : Imps l a ss) (hn : ss.length ≤ 60) (hbl : b < 2000000000) (hl : l.length < 2147483648) :
    Calls Tryz.prog 64 #[.pointer (some ⟨r, 0, none⟩)] w fun e w' => ∃ m, e = .returned (.slice (some ⟨m, 0, none⟩) ss.length ss.length) ∧ Blk w' m 121 (ss.flatMap Imp.cells).toArray ∧ Fr [] w w' := by
  have H := Lib.hid h; have HS := Lib.hid hs; have HA := Lib.hid ha
  have c1 : w.cell? ⟨r, 13, none⟩ = some (.int .u32 a) := h.off 0 a ha
  have c2 : w.cell? ⟨r, 14, none⟩ = some (.int .u32 b) := h.off 1 b hb
  have hba : (a : Int) ≤ b := by omega
  have hdv : ((b : Int) - a) / 16 = ss.length := by omega
  have HAB := Lib.hid hab
  clear h hs ha hb hab
  go_enter Tryz.func64, Tryz.ntmps64
  go_wp2_with fail
  go_quiet (fail)
  have F0 : Fr [] w (w.drewN nq) := (Fr.refl [] w).drewN nq
  have d1 : (w.drewN nq).cell? ⟨r, 13, none⟩ = some (.int .u32 a) := F0.cell (by simp) c1
  have HF0 := Lib.hid F0
  clear F0 c1 c2
  generalize w.drewN nq = w1 at d1 HF0 ⊢
  rw [hdv]
  clear hdv hba
  go_wp2_with ((with_reducible refine selD 22 ?_); go_must (refine wpList_make_full _ rfl _ _ 135 rfl w1.heap.size 121 _ _ 9 (by rfl) (by rfl) (by rfl) (by rfl) .u32 .u32 _ _ ss.length rfl rfl rfl rfl (Nat.le_trans (Nat.mul_le_mul_left _ hn) (by decide)) (by simp only [maxLen]; omega) (Nat.le_refl _) ?_; intro w3 ho3 hg3; refine Hid.out ?_))
  refine Lib.hid ?_
  obtain ⟨ys0, B3, L3⟩ : ∃ ys0 : List Value, Blk w3 w1.heap.size 121 ys0.toArray ∧ ys0.length = ss.length * 9 := ⟨_, made_row ho3⟩
  have F3 := Lib.hid (HF0.out.trans (Fr.grown hg3))
  have d3 : w3.cell? ⟨r, 13, none⟩ = some (.int .u32 a) := (Fr.grown hg3).cell (by simp) d1
  have hmw : w.heap.size ≤ w1.heap.size := HF0.out.size
  have HB3 := Lib.hid B3; have HL3 := Lib.hid L3
  clear ho3 hg3 B3 L3 HF0 d1
  generalize w1.heap.size = m at HB3 hmw ⊢
  go_wp2_with fail
  clear d3
  go_loopw [31, 5] (fun c0 t y => ∃ k : Nat, k ≤ ss.length ∧ c0 = .int .i64 k ∧ t = .int .u32 ((a + k * 16 : Nat) : Int) ∧ Fr [] w y ∧ ∃ ys : List Value, ys.length = (ss.length - k) * 9 ∧ Blk y m 121 ((ss.take k).flatMap Imp.cells ++ ys).toArray) (fun c _ _ => ss.length - (intOf c).toNat)
  case atStart => exact ⟨0, Nat.zero_le _, rfl, by simp, F3.out, ys0, by simpa using HL3.out, by simpa using HB3.out⟩
  case round =>
    obtain ⟨k, hk, rfl, rfl, hf, ys, hys, hb⟩ := hrel
    have HF := Lib.hid hf; have HB := Lib.hid hb
    clear hf hb
    by_cases hlt : k < ss.length
    · obtain ⟨s, hy⟩ : ∃ s, ss[k]? = some s := ⟨_, List.getElem?_eq_getElem hlt⟩
      obtain ⟨hyo, p, hp1, hp2⟩ := HS.out k s hy
      obtain ⟨q0, hq0⟩ : ∃ q0, q0 = a + k * 16 := ⟨_, rfl⟩
      rw [← hq0] at hp1 ⊢
      have hfp : s.fp.length = 8 := hyo
      have hle := hp1.le
      rw [List.length_append, List.length_append, le4_len, le4_len, hfp] at hle
      have HP1 := Lib.hid hp1.left; have HP2 := Lib.hid hp2; have HP3 : Hid (At l (q0 + 8) s.fp) := Lib.hid hp1.right
      have HQ := Lib.hid hq0
      have hdone : ((ss.take k).flatMap Imp.cells).length = k * 9 := by rw [imps_len _ (fun y hy => by obtain ⟨j, hj⟩ := List.mem_iff_getElem?.1 (List.mem_of_mem_take hy); exact (HS.out j y hj).1), List.length_take, Nat.min_eq_left (by omega)]
      have hy9 : (ss.length - k) * 9 = (ss.length - (k + 1)) * 9 + 9 := by rw [show ss.length - k = (ss.length - (k + 1)) + 1 by omega, Nat.add_mul, Nat.one_mul]
      obtain ⟨y1, z, ys', e1, hz, hys2⟩ : ∃ (y1 : Value) (z ys' : List Value), ys = y1 :: z ++ ys' ∧ z.length = 8 ∧ ys'.length = (ss.length - (k + 1)) * 9 := by
        match ys, hys with
        | [], h => simp at h; omega
        | y :: t, h =>
          simp only [List.length_cons] at h
          exact ⟨y, t.take 8, t.drop 8, by simp, by rw [List.length_take]; omega, by rw [List.length_drop]; omega⟩
      subst e1
      have HK : Hid (k * 9 = ((ss.take k).flatMap Imp.cells).length) := Lib.hid hdone.symm
      have HX := Lib.hid hy; have HY2 := Lib.hid hys2; have HZ := Lib.hid hz; have HFP := Lib.hid hfp
      clear hp1 hp2 hq0 hys hys2 hdone hy hz hy9 hfp hyo
      have R1 := Lib.hid (H.out.fr HF.out)
      go_wp2_with fail
      refine ((stringRef_rd R1.out q0 p s.pkg HP1.out HP2.out hl).mono fun _ _ h => toFr h).mono ?_
      rintro e w5 ⟨rfl, f5⟩
      have B5 : Blk w5 m 121 ((ss.take k).flatMap Imp.cells ++ y1 :: (z ++ ys')).toArray := f5.blk (by simp) HB.out
      have e5 : w5.cell? ⟨m, k * 9, none⟩ = some y1 := B5.at (k * 9) HK.out
      have z5 := B5.frozen (k * 9)
      have HB5 := Lib.hid B5; have HF5 := Lib.hid (HF.out.trans f5)
      clear f5 B5 R1
      go_wp2_with fail
      have B6 := HB5.out.put (k * 9) HK.out (.string s.pkg)
      have F6 : Fr [] w (w5.setCell ⟨m, k * 9, none⟩ (.string s.pkg)) := HF5.out.set (.inr hmw) _
      have HB6 := Lib.hid B6; have HF6 := Lib.hid F6
      clear B6 F6 e5 z5
      generalize w5.setCell ⟨m, k * 9, none⟩ (.string s.pkg) = w6 at HB6 HF6 ⊢
      have R6 := Lib.hid (H.out.fr HF6.out)
      have qc := bytesAt_any R6.out.drew (q0 + 8) 8 (by omega) (by omega) hl
      rw [show ((q0 + 8 : Nat) : Int) = (q0 : Int) + 8 by omega, ← wrapU ((q0 : Int) + 8) (by omega) (by omega)] at qc
      go_still_tail 9, (by kernel_rfl)
      still_call qc
      repeat still_step
      refine wpStill_nil ?_
      change wpList _ _ _ _ _ w6.drew
      clear qc
      have hcp := copy8 w6.drew m 121 (k * 9 + 1) ((ss.take k).flatMap Imp.cells ++ [Value.string s.pkg]) z ys' s.fp g (q0 + 8) (by have := HB6.out.drew; simpa using this) (by rw [List.length_append, ← HK.out]; rfl) HZ.out HFP.out (Cs.drew (HP3.out.cs' R6.out))
      rw [show (ss.take k).flatMap Imp.cells ++ [Value.string s.pkg] ++ Lib.byteCells s.fp ++ ys' = (ss.take k).flatMap Imp.cells ++ s.cells ++ ys' from by simp [Imp.cells]] at hcp
      have B7 : Blk (w6.drew.setRow m ((ss.take k).flatMap Imp.cells ++ s.cells ++ ys').toArray) m 121 ((ss.take k).flatMap Imp.cells ++ s.cells ++ ys').toArray := setRow_heap w6.drew m _ _ 121 (0, 0) HB6.out.drew
      have F7 : Fr [m] w6 (w6.drew.setRow m ((ss.take k).flatMap Imp.cells ++ s.cells ++ ys').toArray) := ⟨rfl, rfl, rfl, by simp [World.setRow], fun k _ hk => setRow_other w6.drew m k _ (by simpa using hk)⟩
      have HB7 := Lib.hid B7
      have HF7 : Hid (Fr [] w _) := Lib.hid (((HF6.out.mono (S' := [m]) (by simp)).trans F7).mono (S' := []) (by simpa using hmw))
      clear B7 F7 HB6 HF6 R6
      generalize hrow : ((ss.take k).flatMap Imp.cells ++ s.cells ++ ys').toArray = row at hcp HB7 HF7
      have HRW := Lib.hid hrow
      clear hrow
      generalize w6.drew = w7 at hcp HB7 HF7 ⊢
      go_wp2_with fail
      generalize w7.setRow m row = w8 at HB7 HF7 ⊢
      clear hcp
      go_wp2
      go_roundw
      case rel => exact ⟨k + 1, by omega, by go_num, by have := HQ.out; go_num, HF7.out, ys', HY2.out, by
        have h1 := HB7.out
        rw [← HRW.out] at h1
        rw [show (ss.take (k + 1)).flatMap Imp.cells = (ss.take k).flatMap Imp.cells ++ s.cells from by rw [List.take_add_one, HX.out]; simp]
        exact h1⟩
      case measure => simp [intOf]; omega
    · have e : k = ss.length := by omega
      subst e
      go_wp2
      go_ret
      refine ⟨m, rfl, ?_, HF.out⟩
      have e0 : ys = [] := List.eq_nil_of_length_eq_zero (by omega)
      have h1 := HB.out
      rw [e0, List.append_nil, List.take_length] at h1
      exact h1
end

end Go.Proofs.YtnhafphgkipldaaGreatDoor
