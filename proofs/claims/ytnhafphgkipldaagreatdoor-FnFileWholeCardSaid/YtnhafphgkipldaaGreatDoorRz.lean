/- What reread has laid: the parts of the file under construction, and how they grow. Plain; no walk. Conditions: none. -/
import Derived.Test.YtnhafphgkipldaaGreatDoorDl
import Derived.Test.YtnhafphgkipldaaGreatDoorPln
namespace Go.Proofs.YtnhafphgkipldaaGreatDoor
open Go Go.RowKit

theorem own_shape {w : World} {B : Nat} {e : TypeId} {sz n : Nat} {v : Value} {xs : List Value} (h : w.ownsRow B e sz v n xs) : ∃ A c, v = .slice A n c := by
  rcases h.2 with ⟨rfl, h0⟩ | ⟨g, cap, cur, rfl, _⟩
  · exact ⟨none, 0, by rw [h0]⟩
  · exact ⟨_, cap, rfl⟩
theorem frS_grown {S : List Nat} {w0 w w' : World} {v : Value} {B : Nat} {e : TypeId} {sz n : Nat} {xs : List Value} (f : Fr S w0 w) (ho : w.ownsRow B e sz v n xs) (hB : w0.heap.size ≤ B) (h : w.grownBy w' v.ownBlock) : Fr S w0 w' :=
  ⟨h.os.trans f.os, h.tape.trans f.tape, h.output.trans f.output, Nat.le_trans f.size h.size, fun k hk hn => (h.block k (Nat.lt_of_lt_of_le hk f.size) (fun e => by have := (ho.lt k e.symm).1; omega)).trans (f.block k hk hn)⟩
/-- What one row holds at its cells is one list. -/
theorem exact_own {w w' : World} {B : Nat} {e : TypeId} {sz n : Nat} {v v' : Value} {xs ys zs : List Value} (h : w.ownsRow B e sz v n ys) (k : w.ownsRow B e sz v n xs) (ho : w'.ownsRow B e sz v' (n + 1) (xs ++ zs)) : w'.ownsRow B e sz v' (n + 1) (ys ++ zs) := by
  have : xs = ys := by
    rcases k.2 with ⟨rfl, h0⟩ | ⟨g, cap, cur, rfl, _, hc, _, _, hs, ht⟩
    · have h1 := h.1; have h2 := k.1
      subst h0
      rw [Nat.zero_mul] at h1 h2
      rw [List.eq_nil_of_length_eq_zero h1, List.eq_nil_of_length_eq_zero h2]
    · rcases h.2 with ⟨h1, _⟩ | ⟨g2, cap2, cur2, hv, _, hc2, _, _, hs2, ht2⟩
      · cases h1
      · injection hv with h1 h2 h3
        injection h1 with h1
        injection h1 with h1
        subst h1
        rw [hc] at hc2
        injection hc2 with hc2
        injection hc2 with hc2
        subst hc2
        rw [← ht, ← ht2]
  rw [← this]; exact ho
abbrev nilS : Value := .slice none 0 0
/-- The cells of a file's block. -/
def fcells (fp : By) (fl : Int) (vs : List Value) : List Value := Lib.byteCells fp ++ .int .u32 fl :: vs
def zfp : By := [0, 0, 0, 0, 0, 0, 0, 0]

/-- What reread has laid, besides the file's block and the lists' block. -/
structure Rst (F : Fil) (w : World) (rb cb : Nat) (v0 v1 v2 : Value) (x : World) : Prop where
  fr : Fr [] w x
  rbk : ∃ rcs : Array Value, Blk x rb 33 rcs ∧ rcs.size = 21
  cbk : Blk x cb 82 #[.int .i64 F.own.length, .int .i64 F.short.length, .int .i64 F.hashed.length, .int .i64 F.other.length, .int .i64 F.refs.length, .int .i64 F.refFlags.length, .int .i64 F.refNames.length]
  o0 : ∃ B, x.ownsRow B 59 9 v0 F.imports.length (F.imports.flatMap Imp.cells)
  o1 : ∃ B, x.ownsRow B 9 1 v1 F.packages.length (F.packages.map Value.string)
  o2 : ∃ B, x.ownsRow B 9 1 v2 F.files.length (F.files.map Value.string)
theorem Rst.frS {F : Fil} {w : World} {rb cb g : Nat} {T : TypeId} {v0 v1 v2 : Value} {gs : Array Value} {x y : World} (h : Rst F w rb cb v0 v1 v2 x) (f : Fr [g] x y) (hb : Blk x g T gs) (h1 : w.heap.size ≤ g) (h2 : rb ≠ g) (h3 : cb ≠ g) (t1 : T ≠ 59) (t2 : T ≠ 9) : Rst F w rb cb v0 v1 v2 y := by
  obtain ⟨a, ⟨rcs, b, b2⟩, c, ⟨B0, d0⟩, ⟨B1, d1⟩, ⟨B2, d2⟩⟩ := h
  exact ⟨((a.mono (S' := [g]) (by simp)).trans f).mono (by simpa using h1), ⟨rcs, f.blk (by simpa using h2) b, b2⟩, f.blk (by simpa using h3) c, ⟨B0, own_frS d0 f hb t1⟩, ⟨B1, own_frS d1 f hb t2⟩, ⟨B2, own_frS d2 f hb t2⟩⟩
theorem Rst.fr0 {F : Fil} {w : World} {rb cb : Nat} {v0 v1 v2 : Value} {x y : World} (h : Rst F w rb cb v0 v1 v2 x) (f : Fr [] x y) : Rst F w rb cb v0 v1 v2 y := by
  obtain ⟨a, ⟨rcs, b, b2⟩, c, ⟨B0, d0⟩, ⟨B1, d1⟩, ⟨B2, d2⟩⟩ := h
  exact ⟨a.trans f, ⟨rcs, f.blk (by simp) b, b2⟩, f.blk (by simp) c, ⟨B0, own_fr d0 f⟩, ⟨B1, own_fr d1 f⟩, ⟨B2, own_fr d2 f⟩⟩
/-- The lists' block behind k lists. -/
def LBs (F : Fil) (x : World) (k : Nat) (vs : List Value) : Prop := vs.length = 4 ∧ (∀ j < k, ∃ v ls B, vs[j]? = some v ∧ (LL F)[j]? = some ls ∧ DL B x v ls) ∧ ∀ j, k ≤ j → j < 4 → vs[j]? = some nilS
theorem LBs.frS {F : Fil} {x y : World} {k g : Nat} {vs : List Value} {T : TypeId} {gs : Array Value} (h : LBs F x k vs) (f : Fr [g] x y) (hb : Blk x g T gs) (t0 : T ≠ 51) (t1 : T ≠ 157) (t2 : T ≠ 165) : LBs F y k vs := by
  obtain ⟨a, b, c⟩ := h
  exact ⟨a, fun j hj => by obtain ⟨v, ls, B, e1, e2, e3⟩ := b j hj; exact ⟨v, ls, B, e1, e2, e3.frS f hb t0 t1 t2⟩, c⟩
theorem LL_index (F : Fil) (k : Nat) (ls : List Def) (h : (LL F)[k]? = some ls) (j : Nat) (x : Def) (hx : ls[j]? = some x) : (defs F)[((LL F).take k).flatten.length + j]? = some x := by
  rw [← LL_all]
  have e : (LL F).flatten = ((LL F).take k).flatten ++ (ls ++ ((LL F).drop (k + 1)).flatten) := by
    have hk := List.getElem?_eq_some_iff.1 h
    have e1 : (LL F).drop k = ls :: (LL F).drop (k + 1) := by rw [List.drop_eq_getElem_cons hk.1, hk.2]
    conv => lhs; rw [← List.take_append_drop k (LL F), List.flatten_append, e1, List.flatten_cons]
  have hj : j < ls.length := (List.getElem?_eq_some_iff.1 hx).1
  rw [e, List.getElem?_append_right (by omega), Nat.add_sub_cancel_left, List.getElem?_append_left hj]
  exact hx

theorem Rst.gr {F : Fil} {w : World} {rb cb : Nat} {v0 v1 v2 : Value} {x y : World} {B2 : Nat} {e2 : TypeId} {sz2 n2 : Nat} {z2 : Value} {xs2 : List Value} (h : Rst F w rb cb v0 v1 v2 x) (h2 : x.ownsRow B2 e2 sz2 z2 n2 xs2) (hB : w.heap.size ≤ B2) (hg : x.grownBy y z2.ownBlock) (t0 : e2 ≠ 59) (t1 : e2 ≠ 9) (t3 : (33 : Nat) ≠ e2) (t4 : (82 : Nat) ≠ e2) : Rst F w rb cb v0 v1 v2 y := by
  obtain ⟨a, ⟨rcs, b, b2⟩, c, ⟨B0, d0⟩, ⟨B1, d1⟩, ⟨B3, d2⟩⟩ := h
  exact ⟨frS_grown a h2 hB hg, ⟨rcs, blk_grown b h2 hg t3, b2⟩, blk_grown c h2 hg t4, ⟨B0, own_gr d0 h2 hg t0⟩, ⟨B1, own_gr d1 h2 hg t1⟩, ⟨B3, own_gr d2 h2 hg t1⟩⟩
theorem LBs.step {F : Fil} {x y : World} {k lb : Nat} {vs : List Value} {ls : List Def} {B : Nat} {v : Value} (h : LBs F x k vs) (f : Fr [lb] x y) (hb : Blk x lb 84 vs.toArray) (hls : (LL F)[k]? = some ls) (hd : DL B y v ls) (hk : k < 4) : LBs F y (k + 1) (vs.set k v) := by
  have h' := h.frS f hb (by decide) (by decide) (by decide)
  obtain ⟨a, b, c⟩ := h'
  refine ⟨by rw [List.length_set]; exact a, fun j hj => ?_, fun j h1 h2 => ?_⟩
  · by_cases e : j = k
    · subst e
      exact ⟨v, ls, B, List.getElem?_set_self (by omega), hls, hd⟩
    · obtain ⟨v2, l2, B2, e1, e2, e3⟩ := b j (by omega)
      exact ⟨v2, l2, B2, by rw [List.getElem?_set_ne (by omega)]; exact e1, e2, e3⟩
  · rw [List.getElem?_set_ne (by omega)]; exact c j (by omega) h2
theorem fat {x : World} {fb : Nat} {fp : By} {fl : Int} {vs p q : List Value} {v : Value} {i : Nat} (h : Blk x fb 33 (fcells fp fl vs).toArray) (hl : fp.length = 8) (e : vs = p ++ v :: q := by rfl) (hi : i = 9 + p.length := by rfl) : x.cell? ⟨fb, i, none⟩ = some v := by
  have h' : Blk x fb 33 ((Lib.byteCells fp ++ .int .u32 fl :: p) ++ v :: q).toArray := by rw [e] at h; simpa [fcells] using h
  exact h'.at i (by rw [hi]; simp [bc_len, hl]; omega)
theorem fput {x : World} {fb : Nat} {fp : By} {fl : Int} {vs p q : List Value} {v : Value} {i : Nat} (h : Blk x fb 33 (fcells fp fl vs).toArray) (hl : fp.length = 8) (e : vs = p ++ v :: q := by rfl) (u : Value) (hi : i = 9 + p.length := by rfl) : Blk (x.setCell ⟨fb, i, none⟩ u) fb 33 (fcells fp fl (p ++ u :: q)).toArray := by
  have h' : Blk x fb 33 ((Lib.byteCells fp ++ .int .u32 fl :: p) ++ v :: q).toArray := by rw [e] at h; simpa [fcells] using h
  have := h'.put i (by rw [hi]; simp [bc_len, hl]; omega) u
  simpa [fcells] using this
theorem LBs.fr {F : Fil} {x y : World} {k : Nat} {vs : List Value} (h : LBs F x k vs) (f : Fr [] x y) : LBs F y k vs := by
  obtain ⟨a, b, c⟩ := h
  exact ⟨a, fun j hj => by obtain ⟨v, ls, B, e1, e2, e3⟩ := b j hj; exact ⟨v, ls, B, e1, e2, e3.fr f⟩, c⟩
def U64c (x : Int) : List Value := [.int .u64 x]
/-- All that reread has laid: w7 .. w11 are the lists that are being read, n7 .. n11 of each so far. -/
structure Rz (F : Fil) (w : World) (rb cb fb : Nat) (v0 v1 v2 u3 u4 u5 u6 w7 w8 w9 w10 w11 : Value) (n7 n8 n9 n10 n11 : Nat) (x : World) : Prop where
  st : Rst F w rb cb v0 v1 v2 x
  hf : w.heap.size ≤ fb
  hr : rb ≠ fb
  hc : cb ≠ fb
  fpl : F.fp.length = 8
  d3 : ∃ B, DL B x u3 F.own
  d4 : ∃ B, DL B x u4 F.short
  d5 : ∃ B, DL B x u5 F.hashed
  d6 : ∃ B, DL B x u6 F.other
  r7 : x.ownsRow w.heap.size 53 7 w7 n7 ((F.refs.take n7).flatMap Rfd.cells)
  r8 : x.ownsRow w.heap.size 92 4 w8 n8 ((F.refFlags.take n8).flatMap Flg.cells)
  r9 : x.ownsRow w.heap.size 95 1 w9 n9 ((F.hashes64.take n9).flatMap U64c)
  r10 : x.ownsRow w.heap.size 97 16 w10 n10 ((F.hashes.take n10).flatMap Lib.byteCells)
  r11 : x.ownsRow w.heap.size 57 3 w11 n11 ((F.refNames.take n11).flatMap Nam.cells)
  fbk : Blk x fb 33 (fcells F.fp F.flags [v0, v1, v2, u3, u4, u5, u6, w7, w8, w9, w10, w11]).toArray
section
variable {F : Fil} {w : World} {rb cb fb : Nat} {v0 v1 v2 u3 u4 u5 u6 w7 w8 w9 w10 w11 : Value} {n7 n8 n9 n10 n11 : Nat} {x y : World}
theorem Rz.fr0 (h : Rz F w rb cb fb v0 v1 v2 u3 u4 u5 u6 w7 w8 w9 w10 w11 n7 n8 n9 n10 n11 x) (f : Fr [] x y) : Rz F w rb cb fb v0 v1 v2 u3 u4 u5 u6 w7 w8 w9 w10 w11 n7 n8 n9 n10 n11 y :=
  ⟨h.st.fr0 f, h.hf, h.hr, h.hc, h.fpl, h.d3.imp fun _ d => d.fr f, h.d4.imp fun _ d => d.fr f, h.d5.imp fun _ d => d.fr f, h.d6.imp fun _ d => d.fr f, own_fr h.r7 f, own_fr h.r8 f, own_fr h.r9 f, own_fr h.r10 f, own_fr h.r11 f, f.blk (by simp) h.fbk⟩
theorem Rz.fat7 (h : Rz F w rb cb fb v0 v1 v2 u3 u4 u5 u6 w7 w8 w9 w10 w11 n7 n8 n9 n10 n11 x) : x.cell? ⟨fb, 16, none⟩ = some w7 := fat h.fbk h.fpl (p := [v0, v1, v2, u3, u4, u5, u6]) (q := [w8, w9, w10, w11]) rfl
theorem Rz.push7 (h : Rz F w rb cb fb v0 v1 v2 u3 u4 u5 u6 w7 w8 w9 w10 w11 n7 n8 n9 n10 n11 x) {A : Option Addr} {c : Nat} {r : Rfd} (hr : F.refs[n7]? = some r) (ho : y.ownsRow w.heap.size 53 7 (.slice A (n7 + 1) c) (n7 + 1) ((F.refs.take n7).flatMap Rfd.cells ++ Rfd.cells r)) (hg : x.grownBy y w7.ownBlock) :
    Rz F w rb cb fb v0 v1 v2 u3 u4 u5 u6 (.slice A (n7 + 1) c) w8 w9 w10 w11 (n7 + 1) n8 n9 n10 n11 (y.setCell ⟨fb, 16, none⟩ (.slice A (n7 + 1) c)) := by
  have hb := blk_grown h.fbk h.r7 hg (by decide)
  have f : Fr [fb] y (y.setCell ⟨fb, 16, none⟩ (.slice A (n7 + 1) c)) := (Fr.refl [fb] y).set (.inl (by simp)) _
  refine ⟨(h.st.gr h.r7 (Nat.le_refl _) hg (by decide) (by decide) (by decide) (by decide)).frS f hb h.hf h.hr h.hc (by decide) (by decide), h.hf, h.hr, h.hc, h.fpl, ?_, ?_, ?_, ?_, ?_, ?_, ?_, ?_, ?_, ?_⟩
  · exact h.d3.imp fun _ d => (d.gr h.r7 hg (by decide) (by decide) (by decide)).frS f hb (by decide) (by decide) (by decide)
  · exact h.d4.imp fun _ d => (d.gr h.r7 hg (by decide) (by decide) (by decide)).frS f hb (by decide) (by decide) (by decide)
  · exact h.d5.imp fun _ d => (d.gr h.r7 hg (by decide) (by decide) (by decide)).frS f hb (by decide) (by decide) (by decide)
  · exact h.d6.imp fun _ d => (d.gr h.r7 hg (by decide) (by decide) (by decide)).frS f hb (by decide) (by decide) (by decide)
  · rw [show (F.refs.take (n7 + 1)).flatMap Rfd.cells = (F.refs.take n7).flatMap Rfd.cells ++ Rfd.cells r from by rw [List.take_add_one, hr]; simp]
    exact own_frS ho f hb (by decide)
  · exact own_frS (own_gr h.r8 h.r7 hg (by decide)) f hb (by decide)
  · exact own_frS (own_gr h.r9 h.r7 hg (by decide)) f hb (by decide)
  · exact own_frS (own_gr h.r10 h.r7 hg (by decide)) f hb (by decide)
  · exact own_frS (own_gr h.r11 h.r7 hg (by decide)) f hb (by decide)
  · exact fput hb h.fpl (p := [v0, v1, v2, u3, u4, u5, u6]) (q := [w8, w9, w10, w11]) rfl _
theorem Rz.fat8 (h : Rz F w rb cb fb v0 v1 v2 u3 u4 u5 u6 w7 w8 w9 w10 w11 n7 n8 n9 n10 n11 x) : x.cell? ⟨fb, 17, none⟩ = some w8 := fat h.fbk h.fpl (p := [v0, v1, v2, u3, u4, u5, u6, w7]) (q := [w9, w10, w11]) rfl
theorem Rz.push8 (h : Rz F w rb cb fb v0 v1 v2 u3 u4 u5 u6 w7 w8 w9 w10 w11 n7 n8 n9 n10 n11 x) {A : Option Addr} {c : Nat} {r : Flg} (hr : F.refFlags[n8]? = some r) (ho : y.ownsRow w.heap.size 92 4 (.slice A (n8 + 1) c) (n8 + 1) ((F.refFlags.take n8).flatMap Flg.cells ++ Flg.cells r)) (hg : x.grownBy y w8.ownBlock) :
    Rz F w rb cb fb v0 v1 v2 u3 u4 u5 u6 w7 (.slice A (n8 + 1) c) w9 w10 w11 n7 (n8 + 1) n9 n10 n11 (y.setCell ⟨fb, 17, none⟩ (.slice A (n8 + 1) c)) := by
  have hb := blk_grown h.fbk h.r8 hg (by decide)
  have f : Fr [fb] y (y.setCell ⟨fb, 17, none⟩ (.slice A (n8 + 1) c)) := (Fr.refl [fb] y).set (.inl (by simp)) _
  refine ⟨(h.st.gr h.r8 (Nat.le_refl _) hg (by decide) (by decide) (by decide) (by decide)).frS f hb h.hf h.hr h.hc (by decide) (by decide), h.hf, h.hr, h.hc, h.fpl, ?_, ?_, ?_, ?_, ?_, ?_, ?_, ?_, ?_, ?_⟩
  · exact h.d3.imp fun _ d => (d.gr h.r8 hg (by decide) (by decide) (by decide)).frS f hb (by decide) (by decide) (by decide)
  · exact h.d4.imp fun _ d => (d.gr h.r8 hg (by decide) (by decide) (by decide)).frS f hb (by decide) (by decide) (by decide)
  · exact h.d5.imp fun _ d => (d.gr h.r8 hg (by decide) (by decide) (by decide)).frS f hb (by decide) (by decide) (by decide)
  · exact h.d6.imp fun _ d => (d.gr h.r8 hg (by decide) (by decide) (by decide)).frS f hb (by decide) (by decide) (by decide)
  · exact own_frS (own_gr h.r7 h.r8 hg (by decide)) f hb (by decide)
  · rw [show (F.refFlags.take (n8 + 1)).flatMap Flg.cells = (F.refFlags.take n8).flatMap Flg.cells ++ Flg.cells r from by rw [List.take_add_one, hr]; simp]
    exact own_frS ho f hb (by decide)
  · exact own_frS (own_gr h.r9 h.r8 hg (by decide)) f hb (by decide)
  · exact own_frS (own_gr h.r10 h.r8 hg (by decide)) f hb (by decide)
  · exact own_frS (own_gr h.r11 h.r8 hg (by decide)) f hb (by decide)
  · exact fput hb h.fpl (p := [v0, v1, v2, u3, u4, u5, u6, w7]) (q := [w9, w10, w11]) rfl _
theorem Rz.fat9 (h : Rz F w rb cb fb v0 v1 v2 u3 u4 u5 u6 w7 w8 w9 w10 w11 n7 n8 n9 n10 n11 x) : x.cell? ⟨fb, 18, none⟩ = some w9 := fat h.fbk h.fpl (p := [v0, v1, v2, u3, u4, u5, u6, w7, w8]) (q := [w10, w11]) rfl
theorem Rz.push9 (h : Rz F w rb cb fb v0 v1 v2 u3 u4 u5 u6 w7 w8 w9 w10 w11 n7 n8 n9 n10 n11 x) {A : Option Addr} {c : Nat} {r : Int} (hr : F.hashes64[n9]? = some r) (ho : y.ownsRow w.heap.size 95 1 (.slice A (n9 + 1) c) (n9 + 1) ((F.hashes64.take n9).flatMap U64c ++ U64c r)) (hg : x.grownBy y w9.ownBlock) :
    Rz F w rb cb fb v0 v1 v2 u3 u4 u5 u6 w7 w8 (.slice A (n9 + 1) c) w10 w11 n7 n8 (n9 + 1) n10 n11 (y.setCell ⟨fb, 18, none⟩ (.slice A (n9 + 1) c)) := by
  have hb := blk_grown h.fbk h.r9 hg (by decide)
  have f : Fr [fb] y (y.setCell ⟨fb, 18, none⟩ (.slice A (n9 + 1) c)) := (Fr.refl [fb] y).set (.inl (by simp)) _
  refine ⟨(h.st.gr h.r9 (Nat.le_refl _) hg (by decide) (by decide) (by decide) (by decide)).frS f hb h.hf h.hr h.hc (by decide) (by decide), h.hf, h.hr, h.hc, h.fpl, ?_, ?_, ?_, ?_, ?_, ?_, ?_, ?_, ?_, ?_⟩
  · exact h.d3.imp fun _ d => (d.gr h.r9 hg (by decide) (by decide) (by decide)).frS f hb (by decide) (by decide) (by decide)
  · exact h.d4.imp fun _ d => (d.gr h.r9 hg (by decide) (by decide) (by decide)).frS f hb (by decide) (by decide) (by decide)
  · exact h.d5.imp fun _ d => (d.gr h.r9 hg (by decide) (by decide) (by decide)).frS f hb (by decide) (by decide) (by decide)
  · exact h.d6.imp fun _ d => (d.gr h.r9 hg (by decide) (by decide) (by decide)).frS f hb (by decide) (by decide) (by decide)
  · exact own_frS (own_gr h.r7 h.r9 hg (by decide)) f hb (by decide)
  · exact own_frS (own_gr h.r8 h.r9 hg (by decide)) f hb (by decide)
  · rw [show (F.hashes64.take (n9 + 1)).flatMap U64c = (F.hashes64.take n9).flatMap U64c ++ U64c r from by rw [List.take_add_one, hr]; simp]
    exact own_frS ho f hb (by decide)
  · exact own_frS (own_gr h.r10 h.r9 hg (by decide)) f hb (by decide)
  · exact own_frS (own_gr h.r11 h.r9 hg (by decide)) f hb (by decide)
  · exact fput hb h.fpl (p := [v0, v1, v2, u3, u4, u5, u6, w7, w8]) (q := [w10, w11]) rfl _
theorem Rz.fat10 (h : Rz F w rb cb fb v0 v1 v2 u3 u4 u5 u6 w7 w8 w9 w10 w11 n7 n8 n9 n10 n11 x) : x.cell? ⟨fb, 19, none⟩ = some w10 := fat h.fbk h.fpl (p := [v0, v1, v2, u3, u4, u5, u6, w7, w8, w9]) (q := [w11]) rfl
theorem Rz.push10 (h : Rz F w rb cb fb v0 v1 v2 u3 u4 u5 u6 w7 w8 w9 w10 w11 n7 n8 n9 n10 n11 x) {A : Option Addr} {c : Nat} {r : By} (hr : F.hashes[n10]? = some r) (ho : y.ownsRow w.heap.size 97 16 (.slice A (n10 + 1) c) (n10 + 1) ((F.hashes.take n10).flatMap Lib.byteCells ++ Lib.byteCells r)) (hg : x.grownBy y w10.ownBlock) :
    Rz F w rb cb fb v0 v1 v2 u3 u4 u5 u6 w7 w8 w9 (.slice A (n10 + 1) c) w11 n7 n8 n9 (n10 + 1) n11 (y.setCell ⟨fb, 19, none⟩ (.slice A (n10 + 1) c)) := by
  have hb := blk_grown h.fbk h.r10 hg (by decide)
  have f : Fr [fb] y (y.setCell ⟨fb, 19, none⟩ (.slice A (n10 + 1) c)) := (Fr.refl [fb] y).set (.inl (by simp)) _
  refine ⟨(h.st.gr h.r10 (Nat.le_refl _) hg (by decide) (by decide) (by decide) (by decide)).frS f hb h.hf h.hr h.hc (by decide) (by decide), h.hf, h.hr, h.hc, h.fpl, ?_, ?_, ?_, ?_, ?_, ?_, ?_, ?_, ?_, ?_⟩
  · exact h.d3.imp fun _ d => (d.gr h.r10 hg (by decide) (by decide) (by decide)).frS f hb (by decide) (by decide) (by decide)
  · exact h.d4.imp fun _ d => (d.gr h.r10 hg (by decide) (by decide) (by decide)).frS f hb (by decide) (by decide) (by decide)
  · exact h.d5.imp fun _ d => (d.gr h.r10 hg (by decide) (by decide) (by decide)).frS f hb (by decide) (by decide) (by decide)
  · exact h.d6.imp fun _ d => (d.gr h.r10 hg (by decide) (by decide) (by decide)).frS f hb (by decide) (by decide) (by decide)
  · exact own_frS (own_gr h.r7 h.r10 hg (by decide)) f hb (by decide)
  · exact own_frS (own_gr h.r8 h.r10 hg (by decide)) f hb (by decide)
  · exact own_frS (own_gr h.r9 h.r10 hg (by decide)) f hb (by decide)
  · rw [show (F.hashes.take (n10 + 1)).flatMap Lib.byteCells = (F.hashes.take n10).flatMap Lib.byteCells ++ Lib.byteCells r from by rw [List.take_add_one, hr]; simp]
    exact own_frS ho f hb (by decide)
  · exact own_frS (own_gr h.r11 h.r10 hg (by decide)) f hb (by decide)
  · exact fput hb h.fpl (p := [v0, v1, v2, u3, u4, u5, u6, w7, w8, w9]) (q := [w11]) rfl _
theorem Rz.fat11 (h : Rz F w rb cb fb v0 v1 v2 u3 u4 u5 u6 w7 w8 w9 w10 w11 n7 n8 n9 n10 n11 x) : x.cell? ⟨fb, 20, none⟩ = some w11 := fat h.fbk h.fpl (p := [v0, v1, v2, u3, u4, u5, u6, w7, w8, w9, w10]) (q := []) rfl
theorem Rz.push11 (h : Rz F w rb cb fb v0 v1 v2 u3 u4 u5 u6 w7 w8 w9 w10 w11 n7 n8 n9 n10 n11 x) {A : Option Addr} {c : Nat} {r : Nam} (hr : F.refNames[n11]? = some r) (ho : y.ownsRow w.heap.size 57 3 (.slice A (n11 + 1) c) (n11 + 1) ((F.refNames.take n11).flatMap Nam.cells ++ Nam.cells r)) (hg : x.grownBy y w11.ownBlock) :
    Rz F w rb cb fb v0 v1 v2 u3 u4 u5 u6 w7 w8 w9 w10 (.slice A (n11 + 1) c) n7 n8 n9 n10 (n11 + 1) (y.setCell ⟨fb, 20, none⟩ (.slice A (n11 + 1) c)) := by
  have hb := blk_grown h.fbk h.r11 hg (by decide)
  have f : Fr [fb] y (y.setCell ⟨fb, 20, none⟩ (.slice A (n11 + 1) c)) := (Fr.refl [fb] y).set (.inl (by simp)) _
  refine ⟨(h.st.gr h.r11 (Nat.le_refl _) hg (by decide) (by decide) (by decide) (by decide)).frS f hb h.hf h.hr h.hc (by decide) (by decide), h.hf, h.hr, h.hc, h.fpl, ?_, ?_, ?_, ?_, ?_, ?_, ?_, ?_, ?_, ?_⟩
  · exact h.d3.imp fun _ d => (d.gr h.r11 hg (by decide) (by decide) (by decide)).frS f hb (by decide) (by decide) (by decide)
  · exact h.d4.imp fun _ d => (d.gr h.r11 hg (by decide) (by decide) (by decide)).frS f hb (by decide) (by decide) (by decide)
  · exact h.d5.imp fun _ d => (d.gr h.r11 hg (by decide) (by decide) (by decide)).frS f hb (by decide) (by decide) (by decide)
  · exact h.d6.imp fun _ d => (d.gr h.r11 hg (by decide) (by decide) (by decide)).frS f hb (by decide) (by decide) (by decide)
  · exact own_frS (own_gr h.r7 h.r11 hg (by decide)) f hb (by decide)
  · exact own_frS (own_gr h.r8 h.r11 hg (by decide)) f hb (by decide)
  · exact own_frS (own_gr h.r9 h.r11 hg (by decide)) f hb (by decide)
  · exact own_frS (own_gr h.r10 h.r11 hg (by decide)) f hb (by decide)
  · rw [show (F.refNames.take (n11 + 1)).flatMap Nam.cells = (F.refNames.take n11).flatMap Nam.cells ++ Nam.cells r from by rw [List.take_add_one, hr]; simp]
    exact own_frS ho f hb (by decide)
  · exact fput hb h.fpl (p := [v0, v1, v2, u3, u4, u5, u6, w7, w8, w9, w10]) (q := []) rfl _
/-- Where the five last lists begin. -/
theorem Rz.start (hP : Rst F w rb cb v0 v1 v2 x) (hL : LBs F x 4 [u3, u4, u5, u6]) (hf : w.heap.size ≤ fb) (hr : rb ≠ fb) (hc : cb ≠ fb) (fpl : F.fp.length = 8)
    (hb : Blk x fb 33 (fcells F.fp F.flags [v0, v1, v2, nilS, nilS, nilS, nilS, nilS, nilS, nilS, nilS, nilS]).toArray) :
    Rz F w rb cb fb v0 v1 v2 u3 u4 u5 u6 nilS nilS nilS nilS nilS 0 0 0 0 0 ((((x.setCell ⟨fb, 12, none⟩ u3).setCell ⟨fb, 13, none⟩ u4).setCell ⟨fb, 14, none⟩ u5).setCell ⟨fb, 15, none⟩ u6) := by
  have b1 := fput hb fpl (i := 12) (p := [v0, v1, v2]) (q := [nilS, nilS, nilS, nilS, nilS, nilS, nilS, nilS]) rfl u3
  have b2 := fput b1 fpl (i := 13) (p := [v0, v1, v2, u3]) (q := [nilS, nilS, nilS, nilS, nilS, nilS, nilS]) rfl u4
  have b3 := fput b2 fpl (i := 14) (p := [v0, v1, v2, u3, u4]) (q := [nilS, nilS, nilS, nilS, nilS, nilS]) rfl u5
  have b4 := fput b3 fpl (i := 15) (p := [v0, v1, v2, u3, u4, u5]) (q := [nilS, nilS, nilS, nilS, nilS]) rfl u6
  have f : Fr [fb] x ((((x.setCell ⟨fb, 12, none⟩ u3).setCell ⟨fb, 13, none⟩ u4).setCell ⟨fb, 14, none⟩ u5).setCell ⟨fb, 15, none⟩ u6) :=
    ((((Fr.refl [fb] x).set (.inl (by simp)) _).set (.inl (by simp)) _).set (.inl (by simp)) _).set (.inl (by simp)) _
  have d : ∀ (j : Nat) (u : Value) (ls : List Def), [u3, u4, u5, u6][j]? = some u → (LL F)[j]? = some ls → j < 4 → ∃ B, DL B ((((x.setCell ⟨fb, 12, none⟩ u3).setCell ⟨fb, 13, none⟩ u4).setCell ⟨fb, 14, none⟩ u5).setCell ⟨fb, 15, none⟩ u6) u ls := by
    intro j u ls hu hls hj
    obtain ⟨u', ls', B, e1, e2, e3⟩ := hL.2.1 j hj
    rw [hu] at e1; rw [hls] at e2
    injection e1 with e1; injection e2 with e2
    subst e1; subst e2
    exact ⟨B, e3.frS f hb (by decide) (by decide) (by decide)⟩
  exact ⟨hP.frS f hb hf hr hc (by decide) (by decide), hf, hr, hc, fpl, d 0 _ _ rfl rfl (by decide), d 1 _ _ rfl rfl (by decide), d 2 _ _ rfl rfl (by decide), d 3 _ _ rfl rfl (by decide),
    World.ownsRow_nil _ _ _ _, World.ownsRow_nil _ _ _ _, World.ownsRow_nil _ _ _ _, World.ownsRow_nil _ _ _ _, World.ownsRow_nil _ _ _ _, b4⟩
theorem Rz.cb5 (h : Rz F w rb cb fb v0 v1 v2 u3 u4 u5 u6 w7 w8 w9 w10 w11 n7 n8 n9 n10 n11 x) (i : Nat) (v : Value) (hv : [Value.int .i64 F.own.length, .int .i64 F.short.length, .int .i64 F.hashed.length, .int .i64 F.other.length, .int .i64 F.refs.length, .int .i64 F.refFlags.length, .int .i64 F.refNames.length][i]? = some v) : x.cell? ⟨cb, i, none⟩ = some v := by
  rw [h.st.cbk.cell]; simpa using hv
/-- All has been read: the value. -/
theorem Rz.fil {l : By} {os : List Int} {o : Nat → Nat} (h : Rz F w rb cb fb v0 v1 v2 u3 u4 u5 u6 w7 w8 w9 w10 w11 F.refs.length F.refFlags.length F.hashes64.length F.hashes.length F.refNames.length x) (E : Ef F l os o) :
    FilR x (.agg (fcells F.fp F.flags [v0, v1, v2, u3, u4, u5, u6, w7, w8, w9, w10, w11]).toArray) F := by
  have h7 := h.r7; have h8 := h.r8; have h9 := h.r9; have h10 := h.r10; have h11 := h.r11
  rw [List.take_length] at h7 h8 h9 h10 h11
  obtain ⟨_, o0⟩ := h.st.o0; obtain ⟨_, o1⟩ := h.st.o1; obtain ⟨_, o2⟩ := h.st.o2
  obtain ⟨_, d3⟩ := h.d3; obtain ⟨_, d4⟩ := h.d4; obtain ⟨_, d5⟩ := h.d5; obtain ⟨_, d6⟩ := h.d6
  have hl8 : (Lib.byteCells F.fp).length = 8 := by rw [bc_len, h.fpl]
  have hcell : ∀ (i : Nat), (fcells F.fp F.flags [v0, v1, v2, u3, u4, u5, u6, w7, w8, w9, w10, w11])[8 + i]? = (.int .u32 F.flags :: [v0, v1, v2, u3, u4, u5, u6, w7, w8, w9, w10, w11])[i]? := by
    intro i
    unfold fcells
    rw [List.getElem?_append_right (by omega), hl8, Nat.add_sub_cancel_left]
  have hmem : ∀ {α : Type} {p : α → Prop} {ls : List α}, (∀ (i : Nat) (y : α), ls[i]? = some y → p y) → ∀ y ∈ ls, p y := by
    intro α p ls hh y hy
    obtain ⟨j, hj⟩ := List.mem_iff_getElem?.1 hy
    exact hh j y hj
  have kImp : ∀ y ∈ F.imports, y.ok := hmem (fun i y hy => (E.imps i y hy).1)
  have kRef : ∀ y ∈ F.refs, y.sy.ok := hmem (fun i y hy => (E.syms ((defs F).length + i) y (by rw [List.getElem?_append_right (by simp), List.length_map, Nat.add_sub_cancel_left]; exact hy)).1)
  have kFlg : ∀ y ∈ F.refFlags, y.ok := hmem (fun i y hy => (E.flags i y hy).1)
  have k64 : ∀ y ∈ F.hashes64, u64ok y := hmem (fun i y hy => (E.h64 i y hy).1)
  have k128 : ∀ y ∈ F.hashes, y.length = 16 := hmem (fun i y hy => (E.h128 i y hy).1)
  have kNam : ∀ y ∈ F.refNames, y.ok := hmem (fun i y hy => (E.names i y hy).1)
  refine ⟨_, v0, v1, v2, u3, u4, u5, u6, w7, w8, w9, w10, w11, rfl, ⟨by simp [fcells, hl8], h.fpl, by unfold fcells; rw [← hl8, List.take_left], hcell 0, hcell 1, hcell 2, hcell 3, hcell 4, hcell 5, hcell 6, hcell 7, hcell 8, hcell 9, hcell 10, hcell 11, hcell 12⟩,
    ⟨E.flo, own_sl o0 rfl (fun y hy => ⟨by have h1 : y.fp.length = 8 := kImp y hy; simp [Imp.cells, bc_len, h1], kImp y hy, rfl⟩) (by decide), strs_sl o1 rfl, strs_sl o2 rfl, d3.sl, d4.sl, d5.sl, d6.sl,
     own_sl h7 rfl (fun y hy => ⟨rfl, kRef y hy, rfl⟩) (by decide), own_sl h8 rfl (fun y hy => ⟨rfl, kFlg y hy, rfl⟩) (by decide), own_sl h9 rfl (fun y hy => ⟨rfl, k64 y hy, rfl⟩) (by decide),
     own_sl h10 rfl (fun y hy => ⟨by rw [bc_len, k128 y hy], k128 y hy, rfl⟩) (by decide), own_sl h11 rfl (fun y hy => ⟨rfl, kNam y hy, rfl⟩) (by decide)⟩⟩
theorem Rst.frR {rcs ys : Array Value} (h : Rst F w rb cb v0 v1 v2 x) (f : Fr [rb] x y) (hb : Blk x rb 33 rcs) (hy : Blk y rb 33 ys) (hs : ys.size = 21) (h1 : w.heap.size ≤ rb) : Rst F w rb cb v0 v1 v2 y := by
  obtain ⟨a, _, c, ⟨B0, d0⟩, ⟨B1, d1⟩, ⟨B2, d2⟩⟩ := h
  have hne : cb ≠ rb := c.ne hb (by decide)
  exact ⟨((a.mono (S' := [rb]) (by simp)).trans f).mono (by simpa using h1), ⟨ys, hy, hs⟩, f.blk (by simpa using hne) c, ⟨B0, own_frS d0 f hb (by decide)⟩, ⟨B1, own_frS d1 f hb (by decide)⟩, ⟨B2, own_frS d2 f hb (by decide)⟩⟩
theorem Rz.frR {rcs ys : Array Value} (h : Rz F w rb cb fb v0 v1 v2 u3 u4 u5 u6 w7 w8 w9 w10 w11 n7 n8 n9 n10 n11 x) (f : Fr [rb] x y) (hb : Blk x rb 33 rcs) (hy : Blk y rb 33 ys) (hs : ys.size = 21) (h1 : w.heap.size ≤ rb) : Rz F w rb cb fb v0 v1 v2 u3 u4 u5 u6 w7 w8 w9 w10 w11 n7 n8 n9 n10 n11 y :=
  ⟨h.st.frR f hb hy hs h1, h.hf, h.hr, h.hc, h.fpl, h.d3.imp fun _ d => d.frS f hb (by decide) (by decide) (by decide), h.d4.imp fun _ d => d.frS f hb (by decide) (by decide) (by decide), h.d5.imp fun _ d => d.frS f hb (by decide) (by decide) (by decide), h.d6.imp fun _ d => d.frS f hb (by decide) (by decide) (by decide),
   own_frS h.r7 f hb (by decide), own_frS h.r8 f hb (by decide), own_frS h.r9 f hb (by decide), own_frS h.r10 f hb (by decide), own_frS h.r11 f hb (by decide), f.blk (by simpa using h.hr.symm) h.fbk⟩
theorem own_one {w : World} {B : Nat} {e : TypeId} {sz n : Nat} {v : Value} {xs : List Value} (h : w.ownsRow B e sz v n xs) : v.oneCell' = true := by
  obtain ⟨A, c, rfl⟩ := own_shape h; rfl
theorem Rz.cs_one (h : Rz F w rb cb fb v0 v1 v2 u3 u4 u5 u6 w7 w8 w9 w10 w11 n7 n8 n9 n10 n11 x) : ∀ u ∈ fcells F.fp F.flags [v0, v1, v2, u3, u4, u5, u6, w7, w8, w9, w10, w11], u.oneCell' = true := by
  obtain ⟨_, o0⟩ := h.st.o0; obtain ⟨_, o1⟩ := h.st.o1; obtain ⟨_, o2⟩ := h.st.o2
  obtain ⟨_, _, _, d3, _⟩ := h.d3; obtain ⟨_, _, _, d4, _⟩ := h.d4; obtain ⟨_, _, _, d5, _⟩ := h.d5; obtain ⟨_, _, _, d6, _⟩ := h.d6
  intro u hu
  simp only [fcells, List.mem_append, List.mem_cons, List.not_mem_nil, or_false] at hu
  rcases hu with hu | rfl | rfl | rfl | rfl | rfl | rfl | rfl | rfl | rfl | rfl | rfl | rfl | rfl
  · exact bc_one _ u hu
  · rfl
  all_goals first | exact own_one o0 | exact own_one o1 | exact own_one o2 | exact own_one d3 | exact own_one d4 | exact own_one d5 | exact own_one d6 | exact own_one h.r7 | exact own_one h.r8 | exact own_one h.r9 | exact own_one h.r10 | exact own_one h.r11
theorem fcells_len {fp : By} {fl : Int} {vs : List Value} (h : fp.length = 8) : (fcells fp fl vs).length = 9 + vs.length := by
  simp [fcells, bc_len, h]; omega
end

end Go.Proofs.YtnhafphgkipldaaGreatDoor
