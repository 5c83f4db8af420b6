/- Slices of the call's own, as lists of cells. Plain; no walk. Conditions: none. -/
import Derived.Test.YtnhafphgkipldaaGreatDoorRd6
import Derived.Laws.AppendOwn
import Derived.Laws.AppendOwnNone
import Derived.Laws.OwnMore
import Derived.OwnWalk
namespace Go.Proofs.YtnhafphgkipldaaGreatDoor
open Go Go.RowKit

theorem Fr.grown {w w' : World} (h : w.grownBy w' none) : Fr [] w w' := ⟨h.os, h.tape, h.output, h.size, fun k hk _ => h.block k hk (by simp)⟩
theorem Fr.grownOwn {w0 w w' : World} {v : Value} {B : Nat} {e : TypeId} {sz n : Nat} {xs : List Value} (f : Fr [] w0 w) (ho : w.ownsRow B e sz v n xs) (hB : w0.heap.size ≤ B) (h : w.grownBy w' v.ownBlock) : Fr [] w0 w' :=
  ⟨h.os.trans f.os, h.tape.trans f.tape, h.output.trans f.output, Nat.le_trans f.size h.size, fun k hk _ => (h.block k (Nat.lt_of_lt_of_le hk f.size) (fun e => by have := (ho.lt k e.symm).1; omega)).trans (f.block k hk (by simp))⟩
/-- A slice that was made: its row. -/
theorem made_row {w : World} {B b n sz : Nat} {e : TypeId} {xs : List Value} (h : w.ownsRow B e sz (.slice (some ⟨b, 0, none⟩) n n) n xs) : Blk w b e xs.toArray ∧ xs.length = n * sz := by
  refine ⟨?_, h.1⟩
  rcases h.2 with ⟨h1, _⟩ | ⟨g, cap, cur, hv, _, hc, _, _, hs, ht⟩
  · cases h1
  · injection hv with h1 h2 h3
    injection h1 with h1
    injection h1 with h1
    subst h1; subst h3
    have : cur = xs.toArray := by
      rw [← ht, List.take_of_length_le (by rw [Array.length_toList, hs]; exact Nat.le_refl _)]
    rw [this] at hc
    exact hc
/-- An own row, as a slice with cells. -/
theorem own_sl {α : Type} {w : World} {B n sz : Nat} {e : TypeId} {v : Value} {f : α → List Value} {l : List α} {R : α → List Value → Prop} (h : w.ownsRow B e sz v n (l.flatMap f)) (hn : n = l.length) (hf : ∀ x ∈ l, (f x).length = sz ∧ R x (f x)) (hsz : 0 < sz) : Sl sz R w v l := by
  rcases h.2 with ⟨rfl, h0⟩ | ⟨g, cap, cur, rfl, _, hc, _, _, hs, ht⟩
  · have : l = [] := List.eq_nil_of_length_eq_zero (by omega)
    subst this
    exact ⟨none, 0, rfl, fun h => absurd rfl h⟩
  · refine ⟨_, cap, by rw [hn], fun _ => ⟨g, 0, rfl, ?_⟩⟩
    intro i x hx
    have hm := List.mem_of_getElem? hx
    refine ⟨f x, (hf x hm).2, (hf x hm).1, ?_⟩
    intro j u hj
    have h1 := h.cells (g := g) rfl (i * sz + j) u (by
      have e1 : l.flatMap f = (l.take i).flatMap f ++ f x ++ (l.drop (i + 1)).flatMap f := by
        have hk : i < l.length := (List.getElem?_eq_some_iff.1 hx).1
        conv => lhs; rw [← List.take_append_drop (i + 1) l, List.flatMap_append, List.take_add_one, hx]
        simp
      have e2 : ((l.take i).flatMap f).length = i * sz := by
        have : ∀ t : List α, (∀ y ∈ t, (f y).length = sz) → (t.flatMap f).length = t.length * sz := by
          intro t
          induction t with
          | nil => intro _; simp
          | cons a s ih => intro h; simp only [List.flatMap_cons, List.length_append, List.length_cons, ih (fun y hy => h y (by simp [hy])), h a (by simp), Nat.add_mul, Nat.one_mul]; omega
        rw [this _ (fun y hy => (hf y (List.mem_of_mem_take hy)).1), List.length_take]
        have hk : i < l.length := (List.getElem?_eq_some_iff.1 hx).1
        rw [Nat.min_eq_left (by omega)]
      have hjl : j < (f x).length := (List.getElem?_eq_some_iff.1 hj).1
      rw [e1, List.append_assoc, List.getElem?_append_right (by omega), e2, show i * sz + j - i * sz = j by omega, List.getElem?_append_left hjl]
      exact hj)
    rw [Lib.addr_add, ← Nat.add_assoc] at h1
    exact h1

end Go.Proofs.YtnhafphgkipldaaGreatDoor
