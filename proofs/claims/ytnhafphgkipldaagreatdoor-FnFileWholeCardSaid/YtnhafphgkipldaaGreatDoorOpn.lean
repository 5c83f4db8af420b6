/- A file's value, opened: what the row's reading gives of its memory. Plain; no walk. Conditions: none. -/
import Derived.Test.YtnhafphgkipldaaGreatDoorF6
import Derived.ProofKit
import Derived.OpenShut
import Derived.Deep.Slices
namespace Go.Proofs.YtnhafphgkipldaaGreatDoor
open Go Go.RowKit

/-! ### pieces of a list of cells -/
theorem seg {cs s : List Value} {o k : Nat} (h : (cs.drop o).take k = s) : cs.drop o = s ++ cs.drop (o + k) := by
  rw [← h, ← List.drop_drop, List.take_append_drop]
theorem seg_end {cs : List Value} {o : Nat} (h : cs.length = o) : cs.drop o = [] := by rw [List.drop_eq_nil_iff]; omega
theorem seg_at {cs : List Value} {o : Nat} {v : Value} (h : (cs.drop o).take 1 = [v]) : cs[o]? = some v := by
  have := congrArg (fun l => l[0]?) h
  simpa using this

theorem ok_u8 {n : Int} (h : (Lit.int .u8 n).wf = true) : u8ok n := by have := bounds_u8 h; unfold u8ok; omega
theorem ok_u16 {n : Int} (h : (Lit.int .u16 n).wf = true) : u16ok n := by have := bounds_u16 h; unfold u16ok; omega
theorem ok_u32 {n : Int} (h : (Lit.int .u32 n).wf = true) : u32ok n := by have := bounds_u32 h; unfold u32ok; omega
theorem ok_i32 {n : Int} (h : (Lit.int .i32 n).wf = true) : i32ok n := by have := bounds_i32 h; unfold i32ok; omega
theorem ok_i64 {n : Int} (h : (Lit.int .i64 n).wf = true) : i64ok n := by have := bounds_i64 h; unfold i64ok; omega
section
variable {H : Type} {enc : TypeId × Value → H} {w : World} {base : Nat} {spare : Nat → Bool} {held : Bool}

set_option maxRecDepth 10000 in
theorem open_by {T m : Nat} (hT : Tryz.prog.underlying T = some (.array m 5)) (hC : Tryz.prog.cellsOf T = m) {fuel : Nat} {cs : List Value} {x : DataW H × List MemPlace} (h : DataW.trod enc Tryz.prog w base spare held fuel T cs = some x) :
    ∃ l : By, l.length = m ∧ cs = Lib.byteCells l := by
  obtain ⟨xs, n, _, _, hl, hxl, hel⟩ := DataW.trod_array hT h
  have h5 : Tryz.prog.cellsOf 5 = 1 := by kernel_rfl
  rw [hC] at hl
  have each : ∀ i : Nat, i < m → ∃ c : UInt8, cs[i]? = some (.int .u8 (c.toNat : Int)) := by
    intro i hi
    have h1 := hel i hi
    rw [h5, Nat.mul_one, List.getElem?_eq_getElem (by omega : i < xs.length)] at h1
    obtain ⟨z, hz, _, hw⟩ := DataW.trod_int Tryz.underlying5 h1
    have hb := bounds_u8 hw
    refine ⟨UInt8.ofNat z.toNat, ?_⟩
    rw [seg_at hz, UInt8.toNat_ofNat_of_lt' (by show z.toNat < 256; omega)]
    congr 2
    omega
  have hch : ∀ i : Fin m, ∃ c : UInt8, cs[i.1]? = some (.int .u8 (c.toNat : Int)) := fun i => each i.1 i.2
  refine ⟨List.ofFn (fun i : Fin m => Classical.choose (hch i)), by simp, ?_⟩
  apply List.ext_getElem?
  intro i
  by_cases hi : i < m
  · have := Classical.choose_spec (hch ⟨i, hi⟩)
    rw [bc_get]
    simp [hi]
    exact this
  · rw [List.getElem?_eq_none (by omega), List.getElem?_eq_none (by rw [bc_len]; simp; omega)]

theorem open_sl {α : Type} {T e sz : Nat} {R : α → List Value → Prop} (hT : Tryz.prog.underlying T = some (.slice e)) (hC : Tryz.prog.cellsOf e = sz) (hsz : 0 < sz) (hR : ∀ (n : Nat) (cs : List Value) (y : DataW H × List MemPlace), DataW.trod enc Tryz.prog w base spare held n e cs = some y → cs.length = sz → ∃ a, R a cs)
    {fuel : Nat} {cs : List Value} {x : DataW H × List MemPlace} (h : DataW.trod enc Tryz.prog w base spare held fuel T cs = some x) : ∃ (v : Value) (l : List α), cs = [v] ∧ Sl sz R w v l ∧ l.length ≤ 9223372036854775807 := by
  rcases Deep.open_slice hT h with ⟨rfl, _⟩ | ⟨a, len, cap, m, n, D, Pl, rfl, _, hl, hm, hmm, _, hel⟩
  · exact ⟨_, [], rfl, ⟨none, 0, rfl, fun h => absurd rfl h⟩, by simp⟩
  · have hlm : len ≤ m := by rw [hmm]; split <;> omega
    have each : ∀ i : Fin len, ∃ (y : α) (cs' : List Value), R y cs' ∧ cs'.length = sz ∧ ∀ j, j < sz → w.cell? ((a.add (i.1 * sz)).add j) = cs'[j]? := by
      intro i
      obtain ⟨cs', h1, h2⟩ := hel i.1 (by have := i.2; omega)
      rw [hC] at h1
      obtain ⟨_, h4, h5⟩ := World.cells?_some h1
      obtain ⟨y, hy⟩ := hR n cs' _ h2 h4
      exact ⟨y, cs', hy, h4, h5⟩
    refine ⟨_, List.ofFn (fun i : Fin len => Classical.choose (each i)), rfl, ⟨some a, cap, by rw [List.length_ofFn], fun hne => ?_⟩, ?_⟩
    · have hpos : 0 < len := by
        rcases Nat.eq_zero_or_pos len with h0 | h0
        · subst h0; exact absurd rfl hne
        · exact h0
      obtain ⟨cs', _, hl', h0⟩ := Classical.choose_spec (each ⟨0, hpos⟩)
      have h00 := h0 0 hsz
      rw [List.getElem?_eq_getElem (by omega)] at h00
      have hsp := World.cell?_spot h00
      obtain ⟨b, off, spot⟩ := a
      have : spot = none := by simpa [Addr.add] using hsp
      subst this
      refine ⟨b, off, rfl, fun i x hx => ?_⟩
      have hi : i < len := by
        rcases Nat.lt_or_ge i len with h1 | h1
        · exact h1
        · rw [List.getElem?_eq_none (by simpa using h1)] at hx; cases hx
      obtain ⟨cs2, hy, hl2, h2⟩ := Classical.choose_spec (each ⟨i, hi⟩)
      have hxe : x = Classical.choose (each ⟨i, hi⟩) := by simp [hi] at hx; exact hx.symm
      refine ⟨cs2, by rw [hxe]; exact hy, hl2, fun j v hj => ?_⟩
      have hjl : j < sz := by have := (List.getElem?_eq_some_iff.1 hj).1; omega
      have := h2 j hjl
      rw [hj, Deep.add_add, Lib.addr_add, ← Nat.add_assoc] at this
      exact this
    · refine Nat.le_trans (Nat.le_of_eq List.length_ofFn) (Nat.le_trans hl (Nat.le_trans hm (by unfold maxLen; decide)))

theorem open_str (n : Nat) (cs : List Value) (y : DataW H × List MemPlace) (h : DataW.trod enc Tryz.prog w base spare held n 9 cs = some y) (_hl : cs.length = 1) : ∃ a : ByteArray, StrR a cs := by
  obtain ⟨s, h1, _⟩ := DataW.trod_string Tryz.underlying9 h
  exact ⟨s, h1⟩
theorem open_u64 (n : Nat) (cs : List Value) (y : DataW H × List MemPlace) (h : DataW.trod enc Tryz.prog w base spare held n 95 cs = some y) (_hl : cs.length = 1) : ∃ a : Int, U64R a cs := by
  obtain ⟨z, h1, _, hw⟩ := DataW.trod_int Tryz.underlying95 h
  have := bounds_u64 hw
  exact ⟨z, by unfold u64ok; omega, h1⟩
theorem open_hash (n : Nat) (cs : List Value) (y : DataW H × List MemPlace) (h : DataW.trod enc Tryz.prog w base spare held n 97 cs = some y) (_hl : cs.length = 16) : ∃ a : By, HashR a cs := by
  obtain ⟨l, h1, h2⟩ := open_by Tryz.underlying97 (by kernel_rfl) h
  exact ⟨l, h1, h2⟩
/-- The fields of a struct. -/
theorem open_fields {T L : Nat} {fs : Array Field} (hT : Tryz.prog.underlying T = some (.struct fs)) (hL : Tryz.prog.cellsOf T = L) {fuel : Nat} {cs : List Value} {x : DataW H × List MemPlace} (h : DataW.trod enc Tryz.prog w base spare held fuel T cs = some x) :
    cs.length = L ∧ ∃ n, ∀ (i : Nat) (f : Field) (ty off k : Nat), fs[i]? = some f → f.type = ty → f.offset = off → Tryz.prog.cellsOf ty = k → ∃ y, DataW.trod enc Tryz.prog w base spare held n ty ((cs.drop off).take k) = some y := by
  obtain ⟨xs, n, _, _, hl, hxl, hel⟩ := DataW.trod_struct hT h
  refine ⟨hl.trans hL, n, fun i f ty off k hf ht ho hk => ?_⟩
  subst ht; subst ho; subst hk
  have h1 := hel i f hf
  have hi : i < fs.size := (Array.getElem?_eq_some_iff.1 hf).1
  exact ⟨_, by rw [h1]; exact List.getElem?_eq_getElem (by omega)⟩
theorem open_ref {fuel : Nat} {cs : List Value} {x : DataW H × List MemPlace} (h : DataW.trod enc Tryz.prog w base spare held fuel 55 cs = some x) : ∃ r : Ref, r.ok ∧ cs = r.cells := by
  obtain ⟨hl, n, hf⟩ := open_fields Tryz.underlying55 (L := 2) (by kernel_rfl) h
  obtain ⟨y0, h0⟩ := hf 0 _ 23 0 1 rfl rfl rfl (by kernel_rfl)
  obtain ⟨y1, h1⟩ := hf 1 _ 23 1 1 rfl rfl rfl (by kernel_rfl)
  obtain ⟨a, e0, _, w0⟩ := DataW.trod_int Tryz.underlying23 h0
  obtain ⟨b, e1, _, w1⟩ := DataW.trod_int Tryz.underlying23 h1
  refine ⟨⟨a, b⟩, ⟨ok_u32 w0, ok_u32 w1⟩, ?_⟩
  have := seg e0
  rw [seg e1, seg_end hl] at this
  simpa [Ref.cells] using this
theorem open_sy {fuel : Nat} {cs : List Value} {x : DataW H × List MemPlace} (h : DataW.trod enc Tryz.prog w base spare held fuel 47 cs = some x) : ∃ r : Sy, r.ok ∧ cs = r.cells := by
  obtain ⟨hl, n, hf⟩ := open_fields Tryz.underlying47 (L := 6) (by kernel_rfl) h
  obtain ⟨y0, h0⟩ := hf 0 _ 45 0 1 rfl rfl rfl (by kernel_rfl)
  obtain ⟨y1, h1⟩ := hf 1 _ 5 1 1 rfl rfl rfl (by kernel_rfl)
  obtain ⟨y2, h2⟩ := hf 2 _ 5 2 1 rfl rfl rfl (by kernel_rfl)
  obtain ⟨y3, h3⟩ := hf 3 _ 5 3 1 rfl rfl rfl (by kernel_rfl)
  obtain ⟨y4, h4⟩ := hf 4 _ 23 4 1 rfl rfl rfl (by kernel_rfl)
  obtain ⟨y5, h5⟩ := hf 5 _ 23 5 1 rfl rfl rfl (by kernel_rfl)
  obtain ⟨a, e0, _, w0⟩ := DataW.trod_int Tryz.underlying45 h0
  obtain ⟨b, e1, _, w1⟩ := DataW.trod_int Tryz.underlying5 h1
  obtain ⟨c, e2, _, w2⟩ := DataW.trod_int Tryz.underlying5 h2
  obtain ⟨d, e3, _, w3⟩ := DataW.trod_int Tryz.underlying5 h3
  obtain ⟨e, e4, _, w4⟩ := DataW.trod_int Tryz.underlying23 h4
  obtain ⟨f, e5, _, w5⟩ := DataW.trod_int Tryz.underlying23 h5
  refine ⟨⟨a, b, c, d, e, f⟩, ⟨ok_u16 w0, ok_u8 w1, ok_u8 w2, ok_u8 w3, ok_u32 w4, ok_u32 w5⟩, ?_⟩
  have := seg e0
  rw [seg e1, seg e2, seg e3, seg e4, seg e5, seg_end hl] at this
  simpa [Sy.cells] using this
theorem open_rel (fuel : Nat) (cs : List Value) (x : DataW H × List MemPlace) (h : DataW.trod enc Tryz.prog w base spare held fuel 157 cs = some x) (_hl : cs.length = 6) : ∃ r : Rel, RelR r cs := by
  obtain ⟨hl, n, hf⟩ := open_fields Tryz.underlying157 (L := 6) (by kernel_rfl) h
  obtain ⟨y0, h0⟩ := hf 0 _ 21 0 1 rfl rfl rfl (by kernel_rfl)
  obtain ⟨y1, h1⟩ := hf 1 _ 5 1 1 rfl rfl rfl (by kernel_rfl)
  obtain ⟨y2, h2⟩ := hf 2 _ 45 2 1 rfl rfl rfl (by kernel_rfl)
  obtain ⟨y3, h3⟩ := hf 3 _ 2 3 1 rfl rfl rfl (by kernel_rfl)
  obtain ⟨y4, h4⟩ := hf 4 _ 55 4 2 rfl rfl rfl (by kernel_rfl)
  obtain ⟨a, e0, _, w0⟩ := DataW.trod_int Tryz.underlying21 h0
  obtain ⟨b, e1, _, w1⟩ := DataW.trod_int Tryz.underlying5 h1
  obtain ⟨c, e2, _, w2⟩ := DataW.trod_int Tryz.underlying45 h2
  obtain ⟨d, e3, _, w3⟩ := DataW.trod_int Tryz.underlying2 h3
  obtain ⟨r, hr, e4⟩ := open_ref h4
  refine ⟨⟨a, b, c, d, r⟩, ⟨ok_i32 w0, ok_u8 w1, ok_u16 w2, ok_i64 w3, hr⟩, ?_⟩
  have := seg e0
  rw [seg e1, seg e2, seg e3, seg e4, seg_end hl] at this
  simpa [Rel.cells, Ref.cells] using this
theorem open_aux (fuel : Nat) (cs : List Value) (x : DataW H × List MemPlace) (h : DataW.trod enc Tryz.prog w base spare held fuel 165 cs = some x) (_hl : cs.length = 3) : ∃ r : Aux, AuxR r cs := by
  obtain ⟨hl, n, hf⟩ := open_fields Tryz.underlying165 (L := 3) (by kernel_rfl) h
  obtain ⟨y0, h0⟩ := hf 0 _ 5 0 1 rfl rfl rfl (by kernel_rfl)
  obtain ⟨y1, h1⟩ := hf 1 _ 55 1 2 rfl rfl rfl (by kernel_rfl)
  obtain ⟨a, e0, _, w0⟩ := DataW.trod_int Tryz.underlying5 h0
  obtain ⟨r, hr, e1⟩ := open_ref h1
  refine ⟨⟨a, r⟩, ⟨ok_u8 w0, hr⟩, ?_⟩
  have := seg e0
  rw [seg e1, seg_end hl] at this
  simpa [Aux.cells, Ref.cells] using this
theorem open_flg (fuel : Nat) (cs : List Value) (x : DataW H × List MemPlace) (h : DataW.trod enc Tryz.prog w base spare held fuel 92 cs = some x) (_hl : cs.length = 4) : ∃ r : Flg, FlgR r cs := by
  obtain ⟨hl, n, hf⟩ := open_fields Tryz.underlying92 (L := 4) (by kernel_rfl) h
  obtain ⟨y0, h0⟩ := hf 0 _ 55 0 2 rfl rfl rfl (by kernel_rfl)
  obtain ⟨y1, h1⟩ := hf 1 _ 5 2 1 rfl rfl rfl (by kernel_rfl)
  obtain ⟨y2, h2⟩ := hf 2 _ 5 3 1 rfl rfl rfl (by kernel_rfl)
  obtain ⟨r, hr, e0⟩ := open_ref h0
  obtain ⟨a, e1, _, w1⟩ := DataW.trod_int Tryz.underlying5 h1
  obtain ⟨b, e2, _, w2⟩ := DataW.trod_int Tryz.underlying5 h2
  refine ⟨⟨r, a, b⟩, ⟨hr, ok_u8 w1, ok_u8 w2⟩, ?_⟩
  have := seg e0
  rw [seg e1, seg e2, seg_end hl] at this
  simpa [Flg.cells, Ref.cells] using this
theorem open_nam (fuel : Nat) (cs : List Value) (x : DataW H × List MemPlace) (h : DataW.trod enc Tryz.prog w base spare held fuel 57 cs = some x) (_hl : cs.length = 3) : ∃ r : Nam, NamR r cs := by
  obtain ⟨hl, n, hf⟩ := open_fields Tryz.underlying57 (L := 3) (by kernel_rfl) h
  obtain ⟨y0, h0⟩ := hf 0 _ 55 0 2 rfl rfl rfl (by kernel_rfl)
  obtain ⟨y1, h1⟩ := hf 1 _ 9 2 1 rfl rfl rfl (by kernel_rfl)
  obtain ⟨r, hr, e0⟩ := open_ref h0
  obtain ⟨s, e1, _, _⟩ := DataW.trod_string Tryz.underlying9 h1
  refine ⟨⟨r, s⟩, hr, ?_⟩
  have := seg e0
  rw [seg e1, seg_end hl] at this
  simpa [Nam.cells, Ref.cells] using this
theorem open_rfd (fuel : Nat) (cs : List Value) (x : DataW H × List MemPlace) (h : DataW.trod enc Tryz.prog w base spare held fuel 53 cs = some x) (_hl : cs.length = 7) : ∃ r : Rfd, RfdR r cs := by
  obtain ⟨hl, n, hf⟩ := open_fields Tryz.underlying53 (L := 7) (by kernel_rfl) h
  obtain ⟨y0, h0⟩ := hf 0 _ 9 0 1 rfl rfl rfl (by kernel_rfl)
  obtain ⟨y1, h1⟩ := hf 1 _ 47 1 6 rfl rfl rfl (by kernel_rfl)
  obtain ⟨s, e0, _, _⟩ := DataW.trod_string Tryz.underlying9 h0
  obtain ⟨r, hr, e1⟩ := open_sy h1
  refine ⟨⟨s, r⟩, hr, ?_⟩
  have := seg e0
  rw [seg e1, seg_end hl] at this
  simpa [Rfd.cells] using this
theorem open_imp (fuel : Nat) (cs : List Value) (x : DataW H × List MemPlace) (h : DataW.trod enc Tryz.prog w base spare held fuel 59 cs = some x) (_hl : cs.length = 9) : ∃ r : Imp, ImpR r cs := by
  obtain ⟨hl, n, hf⟩ := open_fields Tryz.underlying59 (L := 9) (by kernel_rfl) h
  obtain ⟨y0, h0⟩ := hf 0 _ 9 0 1 rfl rfl rfl (by kernel_rfl)
  obtain ⟨y1, h1⟩ := hf 1 _ 22 1 8 rfl rfl rfl (by kernel_rfl)
  obtain ⟨s, e0, _, _⟩ := DataW.trod_string Tryz.underlying9 h0
  obtain ⟨l, hl8, e1⟩ := open_by Tryz.underlying22 (by kernel_rfl) h1
  refine ⟨⟨s, l⟩, hl8, ?_⟩
  have := seg e0
  rw [seg e1, seg_end hl] at this
  simpa [Imp.cells] using this
theorem open_def (fuel : Nat) (cs : List Value) (x : DataW H × List MemPlace) (h : DataW.trod enc Tryz.prog w base spare held fuel 51 cs = some x) (_hl : cs.length = 10) : ∃ d : Def, DefR w d cs := by
  obtain ⟨hl, n, hf⟩ := open_fields Tryz.underlying51 (L := 10) (by kernel_rfl) h
  obtain ⟨y0, h0⟩ := hf 0 _ 9 0 1 rfl rfl rfl (by kernel_rfl)
  obtain ⟨y1, h1⟩ := hf 1 _ 47 1 6 rfl rfl rfl (by kernel_rfl)
  obtain ⟨y2, h2⟩ := hf 2 _ 48 7 1 rfl rfl rfl (by kernel_rfl)
  obtain ⟨y3, h3⟩ := hf 3 _ 49 8 1 rfl rfl rfl (by kernel_rfl)
  obtain ⟨y4, h4⟩ := hf 4 _ 9 9 1 rfl rfl rfl (by kernel_rfl)
  obtain ⟨s, e0, _, _⟩ := DataW.trod_string Tryz.underlying9 h0
  obtain ⟨r, hr, e1⟩ := open_sy h1
  obtain ⟨vr, rs, e2, s1, _⟩ := open_sl (R := RelR) (sz := 6) Tryz.underlying48 (by kernel_rfl) (by decide) open_rel h2
  obtain ⟨va, as_, e3, s2, _⟩ := open_sl (R := AuxR) (sz := 3) Tryz.underlying49 (by kernel_rfl) (by decide) open_aux h3
  obtain ⟨dt, e4, _, _⟩ := DataW.trod_string Tryz.underlying9 h4
  refine ⟨⟨s, r, rs, as_, dt⟩, hr, vr, va, ?_, s1, s2⟩
  have := seg e0
  rw [seg e1, seg e2, seg e3, seg e4, seg_end hl] at this
  simpa using this

/-- A file's value. -/
theorem open_file {fuel : Nat} {arr : Array Value} {x : DataW H × List MemPlace} (h : DataW.trod enc Tryz.prog w base spare held fuel 33 arr.toList = some x) : ∃ F : Fil, FilR w (.agg arr) F ∧ Lens F := by
  obtain ⟨cs, rfl⟩ : ∃ cs : List Value, arr = cs.toArray := ⟨arr.toList, by simp⟩
  rw [List.toList_toArray] at h
  obtain ⟨hl, n, hf⟩ := open_fields Tryz.underlying33 (L := 21) (by kernel_rfl) h
  obtain ⟨_, h0⟩ := hf 0 _ 22 0 8 rfl rfl rfl (by kernel_rfl)
  obtain ⟨_, h1⟩ := hf 1 _ 23 8 1 rfl rfl rfl (by kernel_rfl)
  obtain ⟨_, h2⟩ := hf 2 _ 24 9 1 rfl rfl rfl (by kernel_rfl)
  obtain ⟨_, h3⟩ := hf 3 _ 25 10 1 rfl rfl rfl (by kernel_rfl)
  obtain ⟨_, h4⟩ := hf 4 _ 25 11 1 rfl rfl rfl (by kernel_rfl)
  obtain ⟨_, h5⟩ := hf 5 _ 26 12 1 rfl rfl rfl (by kernel_rfl)
  obtain ⟨_, h6⟩ := hf 6 _ 26 13 1 rfl rfl rfl (by kernel_rfl)
  obtain ⟨_, h7⟩ := hf 7 _ 26 14 1 rfl rfl rfl (by kernel_rfl)
  obtain ⟨_, h8⟩ := hf 8 _ 26 15 1 rfl rfl rfl (by kernel_rfl)
  obtain ⟨_, h9⟩ := hf 9 _ 27 16 1 rfl rfl rfl (by kernel_rfl)
  obtain ⟨_, h10⟩ := hf 10 _ 28 17 1 rfl rfl rfl (by kernel_rfl)
  obtain ⟨_, h11⟩ := hf 11 _ 29 18 1 rfl rfl rfl (by kernel_rfl)
  obtain ⟨_, h12⟩ := hf 12 _ 30 19 1 rfl rfl rfl (by kernel_rfl)
  obtain ⟨_, h13⟩ := hf 13 _ 31 20 1 rfl rfl rfl (by kernel_rfl)
  obtain ⟨fp, hfp, e0⟩ := open_by Tryz.underlying22 (by kernel_rfl) h0
  obtain ⟨fl, e1, _, w1⟩ := DataW.trod_int Tryz.underlying23 h1
  obtain ⟨v0, l0, e2, s0, b0⟩ := open_sl (R := ImpR) (sz := 9) Tryz.underlying24 (by kernel_rfl) (by decide) open_imp h2
  obtain ⟨v1, l1, e3, s1, b1⟩ := open_sl (R := StrR) (sz := 1) Tryz.underlying25 (by kernel_rfl) (by decide) open_str h3
  obtain ⟨v2, l2, e4, s2, b2⟩ := open_sl (R := StrR) (sz := 1) Tryz.underlying25 (by kernel_rfl) (by decide) open_str h4
  obtain ⟨v3, l3, e5, s3, b3⟩ := open_sl (R := DefR w) (sz := 10) Tryz.underlying26 (by kernel_rfl) (by decide) open_def h5
  obtain ⟨v4, l4, e6, s4, b4⟩ := open_sl (R := DefR w) (sz := 10) Tryz.underlying26 (by kernel_rfl) (by decide) open_def h6
  obtain ⟨v5, l5, e7, s5, b5⟩ := open_sl (R := DefR w) (sz := 10) Tryz.underlying26 (by kernel_rfl) (by decide) open_def h7
  obtain ⟨v6, l6, e8, s6, b6⟩ := open_sl (R := DefR w) (sz := 10) Tryz.underlying26 (by kernel_rfl) (by decide) open_def h8
  obtain ⟨v7, l7, e9, s7, b7⟩ := open_sl (R := RfdR) (sz := 7) Tryz.underlying27 (by kernel_rfl) (by decide) open_rfd h9
  obtain ⟨v8, l8, e10, s8, b8⟩ := open_sl (R := FlgR) (sz := 4) Tryz.underlying28 (by kernel_rfl) (by decide) open_flg h10
  obtain ⟨v9, l9, e11, s9, b9⟩ := open_sl (R := U64R) (sz := 1) Tryz.underlying29 (by kernel_rfl) (by decide) open_u64 h11
  obtain ⟨v10, l10, e12, s10, b10⟩ := open_sl (R := HashR) (sz := 16) Tryz.underlying30 (by kernel_rfl) (by decide) open_hash h12
  obtain ⟨v11, l11, e13, s11, b11⟩ := open_sl (R := NamR) (sz := 3) Tryz.underlying31 (by kernel_rfl) (by decide) open_nam h13
  exact ⟨⟨fp, fl, l0, l1, l2, l3, l4, l5, l6, l7, l8, l9, l10, l11⟩,
    ⟨cs, v0, v1, v2, v3, v4, v5, v6, v7, v8, v9, v10, v11, rfl,
      ⟨hl, hfp, by simpa using e0, seg_at e1, seg_at e2, seg_at e3, seg_at e4, seg_at e5, seg_at e6, seg_at e7, seg_at e8, seg_at e9, seg_at e10, seg_at e11, seg_at e12, seg_at e13⟩,
      ⟨ok_u32 w1, s0, s1, s2, s3, s4, s5, s6, s7, s8, s9, s10, s11⟩⟩,
    ⟨b0, b1, b2, b3, b4, b5, b6, b7, b8, b9, b10, b11⟩⟩
end

end Go.Proofs.YtnhafphgkipldaaGreatDoor
