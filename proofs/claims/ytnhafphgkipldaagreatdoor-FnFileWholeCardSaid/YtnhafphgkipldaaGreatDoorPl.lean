/- (*goobj.Reader).Pkglist. Conditions: the strings lie in the bytes. -/
import Derived.Test.YtnhafphgkipldaaGreatDoorLp
namespace Go.Proofs.YtnhafphgkipldaaGreatDoor
open Go Go.RowKit

/-- The bytes l hold, from a on, references to the strings ss. -/
def Refs (l : By) (a : Nat) (ss : List ByteArray) : Prop := ∀ (k : Nat) (s : ByteArray), ss[k]? = some s → ∃ p : Nat, At l (a + k * 8) (le4 s.size ++ le4 p) ∧ At l p s.data.toList

section
variable {l fp : By} {fl : Int} {os : List Int} {w w' : World} {r g c : Nat}
set_option maxHeartbeats 1600000 in
set_option maxRecDepth 100000 in
theorem pkglist_any (h : Rd l fp fl os w r g c) (a b : Nat) (ss : List ByteArray) (ha : os[1]? = some (a : Int)) (hb : os[2]? = some (b : Int)) (hab : b = a + ss.length * 8) (hs : Refs l a ss) (hn : ss.length ≤ 60) (hbl : b < 2000000000) (hl : l.length < 2147483648) :
    Calls Tryz.prog 75 #[.pointer (some ⟨r, 0, none⟩)] w fun e w' => ∃ m, e = .returned (.slice (some ⟨m, 0, none⟩) ss.length ss.length) ∧ Blk w' m 9 (ss.map Value.string).toArray ∧ Fr [] w w' := by
  have H := Lib.hid h; have HS := Lib.hid hs; have HA := Lib.hid ha
  have c1 : w.cell? ⟨r, 14, none⟩ = some (.int .u32 a) := h.off 1 a ha
  have c2 : w.cell? ⟨r, 15, none⟩ = some (.int .u32 b) := h.off 2 b hb
  have hba : (a : Int) ≤ b := by omega
  have hdv : ((b : Int) - a) / 8 = ss.length := by omega
  have HAB := Lib.hid hab
  clear h hs ha hb hab
  go_enter Tryz.func75, Tryz.ntmps75
  go_wp2_with fail
  go_quiet (fail)
  have F0 : Fr [] w (w.drewN nq) := (Fr.refl [] w).drewN nq
  have d1 : (w.drewN nq).cell? ⟨r, 14, none⟩ = some (.int .u32 a) := F0.cell (by simp) c1
  have HF0 := Lib.hid F0
  clear F0 c1 c2
  generalize w.drewN nq = w1 at d1 HF0 ⊢
  rw [hdv]
  clear hdv hba
  go_wp2_with ((with_reducible refine selD 22 ?_); go_must (refine wpList_make_full _ rfl _ _ 25 rfl w1.heap.size 9 _ _ 1 (by rfl) (by rfl) (by rfl) (by rfl) .u32 .u32 _ _ ss.length rfl rfl rfl rfl (Nat.le_trans (Nat.mul_le_mul_left _ hn) (by decide)) (by simp only [maxLen]; omega) (Nat.le_refl _) ?_; intro w3 ho3 hg3; refine Hid.out ?_))
  refine Lib.hid ?_
  obtain ⟨ys0, B3, L3⟩ : ∃ ys0 : List Value, Blk w3 w1.heap.size 9 ys0.toArray ∧ ys0.length = ss.length * 1 := ⟨_, made_row ho3⟩
  have F3 := Lib.hid (HF0.out.trans (Fr.grown hg3))
  have d3 : w3.cell? ⟨r, 14, none⟩ = some (.int .u32 a) := (Fr.grown hg3).cell (by simp) d1
  have hmw : w.heap.size ≤ w1.heap.size := HF0.out.size
  have HB3 := Lib.hid B3; have HL3 := Lib.hid L3
  clear ho3 hg3 B3 L3 HF0 d1
  generalize w1.heap.size = m at HB3 hmw ⊢
  go_wp2_with fail
  clear d3
  go_loopw [31, 5] (fun c0 t y => ∃ k : Nat, k ≤ ss.length ∧ c0 = .int .i64 k ∧ t = .int .u32 ((a + k * 8 : Nat) : Int) ∧ Fr [] w y ∧ ∃ ys : List Value, ys.length = ss.length - k ∧ Blk y m 9 ((ss.take k).map Value.string ++ ys).toArray) (fun c _ _ => ss.length - (intOf c).toNat)
  case atStart => exact ⟨0, Nat.zero_le _, rfl, by simp, F3.out, ys0, by simpa using HL3.out, by simpa using HB3.out⟩
  case round =>
    obtain ⟨k, hk, rfl, rfl, hf, ys, hys, hb⟩ := hrel
    have HF := Lib.hid hf; have HB := Lib.hid hb
    clear hf hb
    by_cases hlt : k < ss.length
    · obtain ⟨s, hy⟩ : ∃ s, ss[k]? = some s := ⟨_, List.getElem?_eq_getElem hlt⟩
      obtain ⟨p, hp1, hp2⟩ := HS.out k s hy
      obtain ⟨q0, hq0⟩ : ∃ q0, q0 = a + k * 8 := ⟨_, rfl⟩
      rw [← hq0] at hp1 ⊢
      have hle := hp1.le
      rw [List.length_append, le4_len, le4_len] at hle
      have HP1 := Lib.hid hp1; have HP2 := Lib.hid hp2
      have HQ := Lib.hid hq0
      obtain ⟨y1, ys', rfl⟩ : ∃ y1 ys', ys = y1 :: ys' := by
        match ys, hys with
        | [], h => simp at h; omega
        | y :: t, _ => exact ⟨y, t, rfl⟩
      have hys2 : ys'.length = ss.length - (k + 1) := by simp only [List.length_cons] at hys; omega
      have hkl : k = ((ss.take k).map Value.string).length := by rw [List.length_map, List.length_take, Nat.min_eq_left (by omega)]
      have HK := Lib.hid hkl; have HX := Lib.hid hy; have HY2 := Lib.hid hys2
      clear hp1 hp2 hq0 hys hys2 hkl hy
      have R1 := Lib.hid (H.out.fr HF.out)
      go_wp2_with fail
      refine ((stringRef_rd R1.out q0 p s HP1.out HP2.out hl).mono fun _ _ h => toFr h).mono ?_
      rintro e w5 ⟨rfl, f5⟩
      have B5 := f5.blk (by simp) HB.out
      have e5 : w5.cell? ⟨m, k, none⟩ = some y1 := B5.at k HK.out
      have z5 := B5.frozen k
      have HB5 := Lib.hid B5; have HF5 := Lib.hid (HF.out.trans f5)
      clear f5 B5 R1
      go_wp2_with fail
      have B6 := HB5.out.put k HK.out (.string s)
      have F6 : Fr [] w (w5.setCell ⟨m, k, none⟩ (.string s)) := HF5.out.set (.inr hmw) _
      have HB6 := Lib.hid B6; have HF6 := Lib.hid F6
      clear B6 F6 e5 z5
      generalize w5.setCell ⟨m, k, none⟩ (.string s) = w6 at HB6 HF6 ⊢
      go_wp2
      go_roundw
      case rel => exact ⟨k + 1, by omega, by go_num, by have := HQ.out; go_num, HF6.out, ys', HY2.out, by
        have h1 := HB6.out
        rw [take_succ_map _ _ _ _ HX.out]
        simpa using h1⟩
      case measure => simp [intOf]; omega
    · have e : k = ss.length := by omega
      subst e
      go_wp2
      go_ret
      refine ⟨m, rfl, ?_, HF.out⟩
      have e0 : ys = [] := List.eq_nil_of_length_eq_zero (by omega)
      have h1 := HB.out
      rw [e0, List.append_nil, List.take_length] at h1
      exact h1
end

end Go.Proofs.YtnhafphgkipldaaGreatDoor
