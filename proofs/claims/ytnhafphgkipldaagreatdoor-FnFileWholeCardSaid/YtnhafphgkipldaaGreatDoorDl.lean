/- Lists of symbols with data under construction: what stands while other rows grow. Plain; no walk. Conditions: none. -/
import Derived.Test.YtnhafphgkipldaaGreatDoorStp
namespace Go.Proofs.YtnhafphgkipldaaGreatDoor
open Go Go.RowKit

theorem own_block {w : World} {B : Nat} {e : TypeId} {sz n b : Nat} {v : Value} {xs : List Value} (h : w.ownsRow B e sz v n xs) (hb : v.ownBlock = some b) : ∃ cur, w.heap[b]? = some (.cells cur e (0, 0)) := by
  rcases h.2 with ⟨rfl, _⟩ | ⟨g, cap, cur, rfl, _, hc, _⟩
  · cases hb
  · injection hb with hb
    subst hb
    exact ⟨cur, hc⟩
/-- Under a frame over one block of another type. -/
theorem own_frS {w w' : World} {B : Nat} {e T : TypeId} {sz n g : Nat} {v : Value} {xs : List Value} {cs : Array Value} (h : w.ownsRow B e sz v n xs) (f : Fr [g] w w') (hb : Blk w g T cs) (hT : T ≠ e) : w'.ownsRow B e sz v n xs := by
  refine h.kept (row := some g) ⟨f.os, f.tape, f.output, f.size, fun k hk hne => f.block k hk (by simp only [List.mem_singleton]; rintro rfl; exact hne rfl)⟩ (.inr ?_)
  intro e1
  obtain ⟨cur, hc⟩ := own_block h e1
  have := hc.symm.trans hb
  injection this with h1
  injection h1 with _ h2
  exact hT h2.symm
/-- While a row of another type grows. -/
theorem own_gr {w w' : World} {B B2 : Nat} {e e2 : TypeId} {sz n sz2 n2 : Nat} {v v2 : Value} {xs xs2 : List Value} (h : w.ownsRow B e sz v n xs) (h2 : w.ownsRow B2 e2 sz2 v2 n2 xs2) (hg : w.grownBy w' v2.ownBlock) (hT : e2 ≠ e) : w'.ownsRow B e sz v n xs := by
  refine h.kept hg ?_
  cases hv : v.ownBlock with
  | none => exact .inl rfl
  | some b =>
    refine .inr ?_
    intro e1
    obtain ⟨cur, hc⟩ := own_block h hv
    obtain ⟨cur2, hc2⟩ := own_block h2 e1.symm
    have := hc.symm.trans hc2
    injection this with h1
    injection h1 with _ h2
    exact hT h2.symm
/-- A symbol whose two lists lie in rows of their own. -/
def DO (w : World) (d : Def) (cs : List Value) : Prop :=
  d.sy.ok ∧ (∀ r ∈ d.rels, r.ok) ∧ (∀ r ∈ d.auxs, r.ok) ∧ ∃ vr va B1 B2, cs = .string d.name :: d.sy.cells ++ [vr, va, .string d.data] ∧ w.ownsRow B1 157 6 vr d.rels.length (d.rels.flatMap Rel.cells) ∧ w.ownsRow B2 165 3 va d.auxs.length (d.auxs.flatMap Aux.cells)
theorem DO.len {w : World} {d : Def} {cs : List Value} (h : DO w d cs) : cs.length = 10 := by
  obtain ⟨_, _, _, vr, va, _, _, rfl, _⟩ := h
  simp [Sy.cells]
theorem DO.fr {w w' : World} {d : Def} {cs : List Value} (h : DO w d cs) (f : Fr [] w w') : DO w' d cs := by
  obtain ⟨h1, h2, h3, vr, va, B1, B2, e, k1, k2⟩ := h
  exact ⟨h1, h2, h3, vr, va, B1, B2, e, own_fr k1 f, own_fr k2 f⟩
theorem DO.frS {w w' : World} {d : Def} {cs : List Value} {g : Nat} {T : TypeId} {gs : Array Value} (h : DO w d cs) (f : Fr [g] w w') (hb : Blk w g T gs) (t1 : T ≠ 157) (t2 : T ≠ 165) : DO w' d cs := by
  obtain ⟨h1, h2, h3, vr, va, B1, B2, e, k1, k2⟩ := h
  exact ⟨h1, h2, h3, vr, va, B1, B2, e, own_frS k1 f hb t1, own_frS k2 f hb t2⟩
theorem DO.gr {w w' : World} {d : Def} {cs : List Value} {B2 : Nat} {e2 : TypeId} {sz2 n2 : Nat} {v2 : Value} {xs2 : List Value} (h : DO w d cs) (h2 : w.ownsRow B2 e2 sz2 v2 n2 xs2) (hg : w.grownBy w' v2.ownBlock) (t1 : e2 ≠ 157) (t2 : e2 ≠ 165) : DO w' d cs := by
  obtain ⟨h1, h3, h4, vr, va, B1, B3, e, k1, k2⟩ := h
  exact ⟨h1, h3, h4, vr, va, B1, B3, e, own_gr k1 h2 hg t1, own_gr k2 h2 hg t2⟩
theorem DO.defR {w : World} {d : Def} {cs : List Value} (h : DO w d cs) : DefR w d cs := by
  obtain ⟨h1, h2, h3, vr, va, B1, B2, e, k1, k2⟩ := h
  exact ⟨h1, vr, va, e, own_sl k1 rfl (fun r hr => ⟨rfl, h2 r hr, rfl⟩) (by decide), own_sl k2 rfl (fun r hr => ⟨rfl, h3 r hr, rfl⟩) (by decide)⟩
/-- A row of symbols. -/
def DL (B : Nat) (w : World) (v : Value) (ds : List Def) : Prop :=
  ∃ css : List (List Value), css.length = ds.length ∧ w.ownsRow B 51 10 v ds.length css.flatten ∧ ∀ (i : Nat) (d : Def), ds[i]? = some d → ∃ cs, css[i]? = some cs ∧ DO w d cs
theorem DL.nil (B : Nat) (w : World) : DL B w (.slice none 0 0) [] := ⟨[], rfl, World.ownsRow_nil _ _ _ _, fun i d h => by simp at h⟩
theorem DL.fr {B : Nat} {w w' : World} {v : Value} {ds : List Def} (h : DL B w v ds) (f : Fr [] w w') : DL B w' v ds := by
  obtain ⟨css, h1, h2, h3⟩ := h
  exact ⟨css, h1, own_fr h2 f, fun i d hd => by obtain ⟨cs, a, b⟩ := h3 i d hd; exact ⟨cs, a, b.fr f⟩⟩
theorem DL.frS {B : Nat} {w w' : World} {v : Value} {ds : List Def} {g : Nat} {T : TypeId} {gs : Array Value} (h : DL B w v ds) (f : Fr [g] w w') (hb : Blk w g T gs) (t0 : T ≠ 51) (t1 : T ≠ 157) (t2 : T ≠ 165) : DL B w' v ds := by
  obtain ⟨css, h1, h2, h3⟩ := h
  exact ⟨css, h1, own_frS h2 f hb t0, fun i d hd => by obtain ⟨cs, a, b⟩ := h3 i d hd; exact ⟨cs, a, b.frS f hb t1 t2⟩⟩
theorem DL.gr {B : Nat} {w w' : World} {v : Value} {ds : List Def} {B2 : Nat} {e2 : TypeId} {sz2 n2 : Nat} {v2 : Value} {xs2 : List Value} (h : DL B w v ds) (h2 : w.ownsRow B2 e2 sz2 v2 n2 xs2) (hg : w.grownBy w' v2.ownBlock) (t0 : e2 ≠ 51) (t1 : e2 ≠ 157) (t2 : e2 ≠ 165) : DL B w' v ds := by
  obtain ⟨css, h1, h3, h4⟩ := h
  exact ⟨css, h1, own_gr h3 h2 hg t0, fun i d hd => by obtain ⟨cs, a, b⟩ := h4 i d hd; exact ⟨cs, a, b.gr h2 hg t1 t2⟩⟩
/-- One symbol more. -/
theorem DL.push {B : Nat} {w w' : World} {v v' : Value} {ds : List Def} {d : Def} {cs : List Value} (h : DL B w v ds) (hd : DO w d cs) (hown : ∀ css : List (List Value), w.ownsRow B 51 10 v ds.length css.flatten → w'.ownsRow B 51 10 v' (ds.length + 1) (css.flatten ++ cs)) (hg : w.grownBy w' v.ownBlock) : DL B w' v' (ds ++ [d]) := by
  obtain ⟨css, h1, h2, h3⟩ := h
  refine ⟨css ++ [cs], by simp [h1], by have := hown css h2; simpa using this, ?_⟩
  intro i x hx
  by_cases hi : i < ds.length
  · rw [List.getElem?_append_left hi] at hx
    obtain ⟨c, a, b⟩ := h3 i x hx
    exact ⟨c, by rw [List.getElem?_append_left (by omega)]; exact a, b.gr h2 hg (by decide) (by decide)⟩
  · rw [List.getElem?_append_right (by omega)] at hx
    have h0 : i - ds.length = 0 := by
      rcases Nat.eq_zero_or_pos (i - ds.length) with e | e
      · exact e
      · rw [List.getElem?_eq_none (by simp only [List.length_singleton]; omega)] at hx; cases hx
    rw [h0] at hx
    simp only [List.getElem?_cons_zero, Option.some.injEq] at hx
    subst hx
    exact ⟨cs, by rw [List.getElem?_append_right (by omega), show i - css.length = 0 by omega]; rfl, hd.gr h2 hg (by decide) (by decide)⟩
theorem DL.sl {B : Nat} {w : World} {v : Value} {ds : List Def} (h : DL B w v ds) : Sl 10 (DefR w) w v ds := by
  obtain ⟨css, h1, h2, h3⟩ := h
  have hlen : ∀ c ∈ css, c.length = 10 := by
    intro c hc
    obtain ⟨j, hj⟩ := List.mem_iff_getElem?.1 hc
    have hjl := (List.getElem?_eq_some_iff.1 hj).1
    obtain ⟨cs, a, b⟩ := h3 j ds[j] (List.getElem?_eq_getElem (by omega))
    rw [hj] at a; injection a with a
    rw [a]; exact b.len
  have e : css.flatMap id = css.flatten := by simp [List.flatMap]
  have hs := own_sl (f := id) (l := css) (R := fun c cs => c = cs) (sz := 10) (n := ds.length) (v := v) (w := w) (e := 51) (B := B) (by rw [e]; exact h2) h1.symm (fun c hc => ⟨hlen c hc, rfl⟩) (by decide)
  obtain ⟨A, c, hv, hrest⟩ := hs
  refine ⟨A, c, by rw [hv, h1], fun hne => ?_⟩
  obtain ⟨b, off, hA, hel⟩ := hrest (by intro e; rw [e] at h1; exact hne (List.eq_nil_of_length_eq_zero h1.symm))
  refine ⟨b, off, hA, fun i x hx => ?_⟩
  obtain ⟨cs, a, k⟩ := h3 i x hx
  obtain ⟨cs2, e1, e2, e3⟩ := hel i cs a
  subst e1
  exact ⟨cs, k.defR, e2, e3⟩

end Go.Proofs.YtnhafphgkipldaaGreatDoor
