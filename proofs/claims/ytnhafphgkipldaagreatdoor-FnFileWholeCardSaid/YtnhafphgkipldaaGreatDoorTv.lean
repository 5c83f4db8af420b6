/- Two variables that are made and filled in whatever order: 'x, y := a[i], b[i]'. Plain; no walk. Conditions: none. -/
import Derived.Test.YtnhafphgkipldaaGreatDoorPln
namespace Go.Proofs.YtnhafphgkipldaaGreatDoor
open Go Go.RowKit

theorem eval_put_self {a : Act} {d : Nat} (h : d < a.tmps.size) (v : Value) : (a.put (some d) v).eval (.tmp d) = v := by
  simp [Act.eval, Act.put, h]
theorem eval_put_ne {a : Act} {d e : Nat} (h : d ≠ e) (v : Value) : (a.put (some d) v).eval (.tmp e) = a.eval (.tmp e) :=
  Act.eval_put (fun d' hd => by injection hd with hd; subst hd; intro e'; injection e' with e'; exact h e'.symm)
theorem size_put {a : Act} (d : Nat) (v : Value) : (a.put (some d) v).tmps.size = a.tmps.size := by simp [Act.put]

theorem put_none (a : Act) (v : Value) : a.put none v = a := rfl
theorem two_stores {P : Program} {Q : Exit → Act → World → Prop} {S : World → Prop} {l t10 t11 : List Oper} {o10 o11 : Oper} {M : Array Bool} {a : Act} {w0 w2 : World} {xs ys : List Value} {zs : Array Value} {A B : Nat}
    (hd10 : l.drop 10 = o10 :: t10) (hd11 : l.drop 11 = o11 :: t11) (hg10 : o10.guard = none) (hg11 : o11.guard = none)
    (hop10 : o10.op = .store 51 (.tmp 6) (.tmp 21)) (hop11 : o11.op = .store 51 (.tmp 7) (.tmp 25)) (hs10 : o10.dst = none) (hs11 : o11.dst = none)
    (hr : Region.ready .any l.toArray M = [10]) (hr1 : Region.ready .any l.toArray (M.setIfInBounds 10 true) = [11]) (he : Region.ready .any l.toArray ((M.setIfInBounds 10 true).setIfInBounds 11 true) = [])
    (hsz : ∀ w, (sizeOf 51).run P w = .ok 10 w) (hzl : zs.size = 10) (hxl : xs.length = 10) (hyl : ys.length = 10)
    (h1x : ∀ v ∈ xs, v.oneCell' = true) (h1y : ∀ v ∈ ys, v.oneCell' = true)
    (h6 : a.eval (.tmp 6) = .pointer (some ⟨A, 0, none⟩)) (h7 : a.eval (.tmp 7) = .pointer (some ⟨B, 0, none⟩)) (hx : a.eval (.tmp 21) = .agg xs.toArray) (hy : a.eval (.tmp 25) = .agg ys.toArray) (hS : ∀ z, Fr [] w0 z → S z)
    (hA : w0.heap.size ≤ A) (hB : w0.heap.size ≤ B) (hne : A ≠ B) (f2 : Fr [] w0 w2) (bA : Blk w2 A 51 zs) (bB : Blk w2 B 51 zs)
    (h : ∀ w', Blk w' A 51 xs.toArray → Blk w' B 51 ys.toArray → Fr [] w0 w' → Q .normal a w') :
    wpAnyH P .any l.toArray (NoPanic Q) S 2 M a w2 := by
  refine held_one hr (held_step hd10 hg10 (step_store_all hg10 51 _ _ hop10 A 51 zs xs h6 hx (by rw [hxl]; exact hsz _) bA (by rw [hzl, hxl]) h1x ?_))
  intro w3 b3 f3
  rw [hs10, put_none]
  have F3 : Fr [] w0 w3 := ((f2.mono (S' := [A]) (by simp)).trans f3).mono (by simpa using hA)
  refine ⟨hS _ F3, held_one hr1 (held_step hd11 hg11 (step_store_all hg11 51 _ _ hop11 B 51 zs ys h7 hy (by rw [hyl]; exact hsz _) (f3.blk (by simpa using hne.symm) bB) (by rw [hzl, hyl]) h1y ?_))⟩
  intro w4 b4 f4
  rw [hs11, put_none]
  have F4 : Fr [] w0 w4 := ((F3.mono (S' := [B]) (by simp)).trans f4).mono (by simpa using hB)
  exact ⟨hS _ F4, held_done he (h _ (f4.blk (by simpa using hne) b3) b4 F4)⟩

theorem two_vars {P : Program} {Q : Exit → Act → World → Prop} {S : World → Prop} {l t8 t9 t10 t11 : List Oper} {o8 o9 o10 o11 : Oper} {L : Array Bool} {a : Act} {w0 : World} {xs ys : List Value} {zs : Array Value} {z : Value}
    (hd8 : l.drop 8 = o8 :: t8) (hd9 : l.drop 9 = o9 :: t9) (hd10 : l.drop 10 = o10 :: t10) (hd11 : l.drop 11 = o11 :: t11)
    (hg8 : o8.guard = none) (hg9 : o9.guard = none) (hg10 : o10.guard = none) (hg11 : o11.guard = none)
    (hop8 : o8.op = .alloc 51) (hop9 : o9.op = .alloc 51) (hop10 : o10.op = .store 51 (.tmp 6) (.tmp 21)) (hop11 : o11.op = .store 51 (.tmp 7) (.tmp 25))
    (hs8 : o8.dst = some 6) (hs9 : o9.dst = some 7) (hs10 : o10.dst = none) (hs11 : o11.dst = none)
    (hr0 : Region.ready .any l.toArray L = [8, 9]) (hr8 : Region.ready .any l.toArray (L.setIfInBounds 8 true) = [9]) (hr9 : Region.ready .any l.toArray (L.setIfInBounds 9 true) = [8])
    (hr89 : Region.ready .any l.toArray ((L.setIfInBounds 8 true).setIfInBounds 9 true) = [10]) (hr98 : Region.ready .any l.toArray ((L.setIfInBounds 9 true).setIfInBounds 8 true) = [10])
    (hr1 : Region.ready .any l.toArray (((L.setIfInBounds 8 true).setIfInBounds 9 true).setIfInBounds 10 true) = [11]) (hr2 : Region.ready .any l.toArray (((L.setIfInBounds 9 true).setIfInBounds 8 true).setIfInBounds 10 true) = [11])
    (he1 : Region.ready .any l.toArray ((((L.setIfInBounds 8 true).setIfInBounds 9 true).setIfInBounds 10 true).setIfInBounds 11 true) = []) (he2 : Region.ready .any l.toArray ((((L.setIfInBounds 9 true).setIfInBounds 8 true).setIfInBounds 10 true).setIfInBounds 11 true) = [])
    (hz : ∀ w, (zeroValue 51).run P w = .ok z w) (hzs : z.cells = zs) (hsz : ∀ w, (sizeOf 51).run P w = .ok 10 w) (hzl : zs.size = 10) (hxl : xs.length = 10) (hyl : ys.length = 10)
    (h1x : ∀ v ∈ xs, v.oneCell' = true) (h1y : ∀ v ∈ ys, v.oneCell' = true)
    (hsize : 25 < a.tmps.size) (hx : a.eval (.tmp 21) = .agg xs.toArray) (hy : a.eval (.tmp 25) = .agg ys.toArray) (hS : ∀ z, Fr [] w0 z → S z)
    (h : ∀ A B w', Blk w' A 51 xs.toArray → Blk w' B 51 ys.toArray → Fr [] w0 w' → Q .normal ((a.put (some 6) (.pointer (some ⟨A, 0, none⟩))).put (some 7) (.pointer (some ⟨B, 0, none⟩))) w') :
    wpAnyH P .any l.toArray (NoPanic Q) S 4 L a w0 := by
  refine held_two hr0 ?_ ?_
  · refine held_step hd8 hg8 (step_alloc hg8 51 hop8 zs z (hz _) hzs ?_)
    rw [hs8]
    have f1 := (Fr.refl [] w0).alloc (.cells zs 51)
    have b1 := Blk.new w0 51 zs
    have hA : w0.heap.size ≤ w0.heap.size := Nat.le_refl _
    generalize w0.alloc (.cells zs 51) = w1 at f1 b1 ⊢
    obtain ⟨A, eA⟩ : ∃ A, A = w0.heap.size := ⟨_, rfl⟩
    rw [← eA] at b1 ⊢
    refine ⟨hS _ f1, held_one hr8 (held_step hd9 hg9 (step_alloc hg9 51 hop9 zs z (hz _) hzs ?_))⟩
    rw [hs9]
    refine ⟨hS _ (f1.alloc (.cells zs 51)), two_stores hd10 hd11 hg10 hg11 hop10 hop11 hs10 hs11 hr89 hr1 he1 hsz hzl hxl hyl h1x h1y (A := A) (B := w1.heap.size) (by rw [eval_put_ne (by decide), eval_put_self (by omega)]) (by rw [eval_put_self (by rw [size_put]; omega)]) (by rw [eval_put_ne (by decide), eval_put_ne (by decide), hx]) (by rw [eval_put_ne (by decide), eval_put_ne (by decide), hy]) hS (by omega) f1.size (by have := b1.lt; omega) (f1.alloc (.cells zs 51)) (b1.alloc (.cells zs 51)) (Blk.new w1 51 zs) (fun w' p q r => h _ _ _ p q r)⟩
  · refine held_step hd9 hg9 (step_alloc hg9 51 hop9 zs z (hz _) hzs ?_)
    rw [hs9]
    have f1 := (Fr.refl [] w0).alloc (.cells zs 51)
    have b1 := Blk.new w0 51 zs
    generalize w0.alloc (.cells zs 51) = w1 at f1 b1 ⊢
    obtain ⟨B, eB⟩ : ∃ B, B = w0.heap.size := ⟨_, rfl⟩
    rw [← eB] at b1 ⊢
    refine ⟨hS _ f1, held_one hr9 (held_step hd8 hg8 (step_alloc hg8 51 hop8 zs z (hz _) hzs ?_))⟩
    rw [hs8, Act.put_comm a _ _ (fun d hd => by injection hd with hd; subst hd; decide)]
    refine ⟨hS _ (f1.alloc (.cells zs 51)), two_stores hd10 hd11 hg10 hg11 hop10 hop11 hs10 hs11 hr98 hr2 he2 hsz hzl hxl hyl h1x h1y (A := w1.heap.size) (B := B) (by rw [eval_put_ne (by decide), eval_put_self (by omega)]) (by rw [eval_put_self (by rw [size_put]; omega)]) (by rw [eval_put_ne (by decide), eval_put_ne (by decide), hx]) (by rw [eval_put_ne (by decide), eval_put_ne (by decide), hy]) hS f1.size (by omega) (by have := b1.lt; omega) (f1.alloc (.cells zs 51)) (Blk.new w1 51 zs) (b1.alloc (.cells zs 51)) (fun w' p q r => h _ _ _ p q r)⟩

end Go.Proofs.YtnhafphgkipldaaGreatDoor
