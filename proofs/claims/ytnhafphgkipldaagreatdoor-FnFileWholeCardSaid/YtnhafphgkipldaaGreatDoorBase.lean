/- The words of the proof: the bytes of numbers, cells that lie in a row, frames between worlds. Plain lemmas; no walk. Conditions: none. -/
import Derived.Test.YtnhafphgkipldaaGreatDoorChecked
import Derived.WalkKit
import Derived.Outline
import Derived.Deep.QuietTactic
import Derived.BigQuiet
import Derived.Lib.Buffer
import Derived.Lib.BufferWrite
import Derived.Lib.OthersKept
import Derived.Lib.Hide
namespace Go.Proofs.YtnhafphgkipldaaGreatDoor
open Go Go.RowKit

abbrev By := List UInt8

/-! ### numbers and bytes -/
def b8 (x : Int) : UInt8 := UInt8.ofNat (x % 256).toNat
theorem b8_val (x : Int) : ((b8 x).toNat : Int) = x % 256 := by
  unfold b8
  have h0 : 0 ≤ x % 256 := by omega
  have h1 : x % 256 < 256 := by omega
  rw [UInt8.toNat_ofNat_of_lt' (by show (x % 256).toNat < 256; omega)]
  omega
theorem b8_cell (x : Int) : Value.int .u8 ((b8 x).toNat : Int) = .int .u8 (x % 256) := by rw [b8_val]
theorem b8_byte (c : UInt8) : b8 (c.toNat : Int) = c := by
  unfold b8
  have h : c.toNat < 256 := c.toNat_lt
  have e : ((c.toNat : Int) % 256).toNat = c.toNat := by omega
  rw [e]; simp

def le2 (x : Int) : By := [b8 x, b8 (x / 256)]
def le4 (x : Int) : By := [b8 x, b8 (x / 256), b8 (x / 65536), b8 (x / 16777216)]
def le8 (x : Int) : By := le4 x ++ le4 (x / 4294967296)
theorem le2_len (x : Int) : (le2 x).length = 2 := rfl
theorem le4_len (x : Int) : (le4 x).length = 4 := rfl
theorem le8_len (x : Int) : (le8 x).length = 8 := rfl

theorem bc_len (l : By) : (Lib.byteCells l).length = l.length := by simp [Lib.byteCells]
theorem bc_app (p q : By) : Lib.byteCells (p ++ q) = Lib.byteCells p ++ Lib.byteCells q := by simp [Lib.byteCells]
theorem bc_get (l : By) (j : Nat) : (Lib.byteCells l)[j]? = (l[j]?).map fun c => Value.int .u8 (c.toNat : Int) := by simp [Lib.byteCells]
theorem bc_one (l : By) : ∀ v ∈ Lib.byteCells l, v.oneCell' = true := Lib.byteCells_one l

theorem ret_int {k : IntKind} {a b : Int} (h : a = b) : Ending.returned (.int k a) = .returned (.int k b) := by rw [h]

/-! ### cells in a row -/
/-- From 'off' on block b holds the cells xs. -/
def Cs (w : World) (b off : Nat) (xs : List Value) : Prop := ∀ j v, xs[j]? = some v → w.cell? ⟨b, off + j, none⟩ = some v

theorem Cs.mid {w : World} {b off : Nat} {p s q : List Value} (h : Cs w b off (p ++ s ++ q)) : Cs w b (off + p.length) s := by
  intro j v hj
  have hl : j < s.length := by
    rcases Nat.lt_or_ge j s.length with h1 | h1
    · exact h1
    · rw [List.getElem?_eq_none h1] at hj; cases hj
  have := h (p.length + j) v (by rw [List.append_assoc, List.getElem?_append_right (by omega), List.getElem?_append_left (by omega)]; rw [← hj]; congr 1; omega)
  rw [← this]; congr 2; omega
theorem Cs.left {w : World} {b off : Nat} {p q : List Value} (h : Cs w b off (p ++ q)) : Cs w b off p := by
  have := Cs.mid (p := []) (s := p) (q := q) (by simpa using h)
  simpa using this
theorem Cs.right {w : World} {b off : Nat} {p q : List Value} (h : Cs w b off (p ++ q)) : Cs w b (off + p.length) q := by
  have := Cs.mid (p := p) (s := q) (q := []) (by simpa using h)
  simpa using this
theorem Cs.join {w : World} {b off : Nat} {p q : List Value} (h : Cs w b off p) (k : Cs w b (off + p.length) q) : Cs w b off (p ++ q) := by
  intro j v hj
  rcases Nat.lt_or_ge j p.length with h1 | h1
  · rw [List.getElem?_append_left h1] at hj; exact h j v hj
  · rw [List.getElem?_append_right h1] at hj
    have := k _ v hj
    rw [← this]; congr 2; omega
theorem Cs.nil {w : World} {b off : Nat} : Cs w b off [] := by intro j v hj; simp at hj
theorem Cs.at0 {w : World} {b off : Nat} {v : Value} {r : List Value} (h : Cs w b off (v :: r)) : w.cell? ⟨b, off, none⟩ = some v := h 0 v rfl
theorem Cs.at {w : World} {b off : Nat} {xs : List Value} (h : Cs w b off xs) (j : Nat) (v : Value) (hj : xs[j]? = some v) : w.cell? ⟨b, off + j, none⟩ = some v := h j v hj
theorem Cs.keep {w w' : World} {b off : Nat} {xs : List Value} (h : Cs w b off xs) (hk : ∀ o v, w.cell? ⟨b, o, none⟩ = some v → w'.cell? ⟨b, o, none⟩ = some v) : Cs w' b off xs :=
  fun j v hj => hk _ _ (h j v hj)
theorem Cs.drewN {w : World} {b off : Nat} {xs : List Value} (h : Cs w b off xs) (n : Nat) : Cs (w.drewN n) b off xs := h
theorem Cs.drew {w : World} {b off : Nat} {xs : List Value} (h : Cs w b off xs) : Cs w.drew b off xs := h
theorem Cs.addr {w : World} {b off : Nat} {xs : List Value} (h : Cs w b off xs) : ∀ j v, xs[j]? = some v → w.cell? ((⟨b, off, none⟩ : Addr).add j) = some v := by
  intro j v hj; rw [Lib.addr_add]; exact h j v hj

/-- Block g is just the cells cs of type T, none of them frozen. -/
def Blk (w : World) (g : Nat) (T : TypeId) (cs : Array Value) : Prop := w.heap[g]? = some (.cells cs T (0, 0))
section
variable {w w' : World} {g : Nat} {T : TypeId} {cs : Array Value}
theorem Blk.lt (h : Blk w g T cs) : g < w.heap.size := Lib.lt_of_heap h
theorem Blk.cell (h : Blk w g T cs) (i : Nat) : w.cell? ⟨g, i, none⟩ = cs[i]? := by unfold Blk at h; simp [World.cell?, h]
theorem Blk.frozen (h : Blk w g T cs) (i : Nat) : w.frozen? ⟨g, i, none⟩ = false := by unfold Blk at h; simp [World.frozen?, h]
theorem Blk.new (w : World) (T : TypeId) (cs : Array Value) : Blk (w.alloc (.cells cs T)) w.heap.size T cs := heap_alloc_new w _
theorem Blk.drew (h : Blk w g T cs) : Blk w.drew g T cs := h
theorem Blk.drewN (h : Blk w g T cs) (n : Nat) : Blk (w.drewN n) g T cs := h
theorem Blk.alloc (h : Blk w g T cs) (o : Obj) : Blk (w.alloc o) g T cs := (Below.heap_alloc w o g h.lt).trans h
theorem Blk.set (h : Blk w g T cs) (i : Nat) (u : Value) : Blk (w.setCell ⟨g, i, none⟩ u) g T (cs.setIfInBounds i u) := by
  unfold Blk at h ⊢
  simp [World.setCell, Array.getElem?_modify, h]
theorem Blk.far (h : Blk w g T cs) {p : Addr} (hp : g ≠ p.block) (u : Value) : Blk (w.setCell p u) g T cs := (Below.heap_setCell w p u g hp).trans h
theorem Blk.part (h : Blk w g T cs) {p s q : List Value} (e : cs.toList = p ++ s ++ q) : Cs w g p.length s := by
  intro j v hj
  rw [h.cell]
  have hl : j < s.length := by
    rcases Nat.lt_or_ge j s.length with h1 | h1
    · exact h1
    · rw [List.getElem?_eq_none h1] at hj; cases hj
  rw [← Array.getElem?_toList, e, List.append_assoc, List.getElem?_append_right (by omega), List.getElem?_append_left (by omega), ← hj]; congr 1; omega
theorem Blk.put {p q : List Value} {v : Value} (h : Blk w g T (p ++ v :: q).toArray) (i : Nat) (hi : i = p.length) (u : Value) : Blk (w.setCell ⟨g, i, none⟩ u) g T (p ++ u :: q).toArray := by
  have := h.set i u
  subst hi
  have e : (p ++ v :: q).toArray.setIfInBounds p.length u = (p ++ u :: q).toArray := by
    rw [List.setIfInBounds_toArray]; congr 1; simp
  rwa [e] at this
theorem Blk.at {p q : List Value} {v : Value} (h : Blk w g T (p ++ v :: q).toArray) (i : Nat) (hi : i = p.length) : w.cell? ⟨g, i, none⟩ = some v := by
  rw [h.cell, hi]; simp
theorem Blk.all (h : Blk w g T cs) : Cs w g 0 cs.toList := by
  have := h.part (p := []) (s := cs.toList) (q := []) (by simp)
  simpa using this
end

/-! ### frames -/
/-- Of the blocks that were there only those of S may have turned. -/
structure Fr (S : List Nat) (w w' : World) : Prop where
  os : w'.os = w.os
  tape : w'.tape = w.tape
  output : w'.output = w.output
  size : w.heap.size ≤ w'.heap.size
  block : ∀ k, k < w.heap.size → k ∉ S → w'.heap[k]? = w.heap[k]?

theorem Fr.refl (S : List Nat) (w : World) : Fr S w w := ⟨rfl, rfl, rfl, Nat.le_refl _, fun _ _ _ => rfl⟩
theorem Fr.trans {S : List Nat} {a b c : World} (h : Fr S a b) (k : Fr S b c) : Fr S a c :=
  ⟨k.os.trans h.os, k.tape.trans h.tape, k.output.trans h.output, Nat.le_trans h.size k.size, fun i hi hS => (k.block i (Nat.lt_of_lt_of_le hi h.size) hS).trans (h.block i hi hS)⟩
theorem Fr.mono {S S' : List Nat} {a b : World} (h : Fr S a b) (hS : ∀ x ∈ S, x ∈ S' ∨ a.heap.size ≤ x) : Fr S' a b :=
  ⟨h.os, h.tape, h.output, h.size, fun k hk hn => h.block k hk (fun hm => by rcases hS k hm with h1 | h1; exact hn h1; omega)⟩
theorem Fr.drew {S : List Nat} {a w : World} (h : Fr S a w) : Fr S a w.drew := ⟨h.os, h.tape, h.output, h.size, h.block⟩
theorem Fr.drewN {S : List Nat} {a w : World} (h : Fr S a w) (n : Nat) : Fr S a (w.drewN n) := ⟨h.os, h.tape, h.output, h.size, h.block⟩
theorem Fr.alloc {S : List Nat} {a w : World} (h : Fr S a w) (o : Obj) : Fr S a (w.alloc o) :=
  h.trans ⟨rfl, rfl, rfl, by simp, fun k hk _ => Below.heap_alloc _ _ _ hk⟩
theorem Fr.set {S : List Nat} {a w : World} (h : Fr S a w) {p : Addr} (hp : p.block ∈ S ∨ a.heap.size ≤ p.block) (u : Value) : Fr S a (w.setCell p u) :=
  ⟨h.os, h.tape, h.output, by simpa [World.setCell] using h.size, fun k hk hS => (Below.heap_setCell _ _ _ _ (by rintro rfl; rcases hp with h1 | h1; exact hS h1; omega)).trans (h.block k hk hS)⟩
theorem Fr.below {a w : World} (h : Fr [] a w) : Below a.heap.size a w := ⟨h.os, h.tape, h.output, h.size, fun k hk => h.block k hk (by simp)⟩
theorem Fr.of_below {S : List Nat} {a w : World} (h : Below a.heap.size a w) : Fr S a w := ⟨h.os, h.tape, h.output, h.size, fun k hk _ => h.block k hk⟩
theorem Fr.cell {S : List Nat} {w w' : World} (h : Fr S w w') {b o : Nat} (hS : b ∉ S) {v : Value} (hc : w.cell? ⟨b, o, none⟩ = some v) : w'.cell? ⟨b, o, none⟩ = some v := by
  have hlt : b < w.heap.size := by
    rcases Nat.lt_or_ge b w.heap.size with h1 | h1
    · exact h1
    · simp [World.cell?, Array.getElem?_eq_none h1] at hc
  rw [← hc]; exact World.cell?_of_block (w := w) (h.block b hlt hS)
theorem Fr.blk {S : List Nat} {w w' : World} (h : Fr S w w') {g : Nat} {T : TypeId} {cs : Array Value} (hS : g ∉ S) (hb : Blk w g T cs) : Blk w' g T cs := (h.block g hb.lt hS).trans hb
theorem Fr.cs {S : List Nat} {w w' : World} (h : Fr S w w') {b off : Nat} {xs : List Value} (hS : b ∉ S) (hc : Cs w b off xs) : Cs w' b off xs := hc.keep fun _ _ hv => h.cell hS hv

theorem cell_lt {w : World} {b o : Nat} {v : Value} (hc : w.cell? ⟨b, o, none⟩ = some v) : b < w.heap.size := by
  rcases Nat.lt_or_ge b w.heap.size with h1 | h1
  · exact h1
  · simp [World.cell?, Array.getElem?_eq_none h1] at hc

/-- The frame of what is written into a buffer: below B nothing has turned; of the rest only the blocks of S and rows of bytes may have. -/
structure Fw (B : Nat) (S : List Nat) (w w' : World) : Prop where
  below : Below B w w'
  kept : ∀ k o, w.heap[k]? = some o → k ∉ S → (∀ c fz, o ≠ .cells c 5 fz) → w'.heap[k]? = some o

theorem Fw.refl (B : Nat) (S : List Nat) (w : World) : Fw B S w w := ⟨Below.refl _ _, fun _ _ h _ _ => h⟩
theorem Fw.trans {B : Nat} {S : List Nat} {a b c : World} (h : Fw B S a b) (k : Fw B S b c) : Fw B S a c :=
  ⟨h.below.trans k.below, fun i o hi hS ho => k.kept i o (h.kept i o hi hS ho) hS ho⟩
theorem Fw.of_fr {B : Nat} {S S' : List Nat} {w w' : World} (h : Fr S' w w') (hB : B ≤ w.heap.size) (hS : ∀ x ∈ S', B ≤ x ∧ (x ∈ S ∨ w.heap.size ≤ x)) : Fw B S w w' :=
  ⟨⟨h.os, h.tape, h.output, h.size, fun k hk => h.block k (by omega) (fun hm => by have := (hS k hm).1; omega)⟩,
   fun k o hk hn _ => (h.block k (Lib.lt_of_heap hk) (fun hm => by rcases (hS k hm).2 with h1 | h1; exact hn h1; have := Lib.lt_of_heap hk; omega)).trans hk⟩
theorem Fw.thenFr {B : Nat} {S S' : List Nat} {a b c : World} (h : Fw B S a b) (k : Fr S' b c) (hB : B ≤ a.heap.size) (hS : ∀ x ∈ S', B ≤ x ∧ (x ∈ S ∨ a.heap.size ≤ x)) : Fw B S a c :=
  ⟨⟨k.os.trans h.below.os, k.tape.trans h.below.tape, k.output.trans h.below.output, Nat.le_trans h.below.size k.size,
    fun j hj => (k.block j (by have := h.below.size; omega) (fun hm => by have := (hS j hm).1; omega)).trans (h.below.block j hj)⟩,
   fun j o hj hn ho => by
    have h1 := h.kept j o hj hn ho
    exact (k.block j (Lib.lt_of_heap h1) (fun hm => by rcases (hS j hm).2 with h2 | h2; exact hn h2; have := Lib.lt_of_heap hj; omega)).trans h1⟩
theorem Fw.thenNew {B : Nat} {S : List Nat} {a b c : World} {g : Nat} (h : Fw B S a b) (k : Fr [g] b c) (hB : B ≤ a.heap.size) (hg : a.heap.size ≤ g) : Fw B S a c :=
  h.thenFr k hB (by simp only [List.mem_singleton]; rintro x rfl; exact ⟨by omega, .inr hg⟩)
theorem Fw.alloc {B : Nat} {S : List Nat} {a w : World} (h : Fw B S a w) (hB : B ≤ w.heap.size) (o : Obj) : Fw B S a (w.alloc o) :=
  h.trans (Fw.of_fr (S' := []) ((Fr.refl [] w).alloc o) hB (by simp))
theorem Fw.drew {B : Nat} {S : List Nat} {a w : World} (h : Fw B S a w) : Fw B S a w.drew := ⟨h.below.drew, h.kept⟩
theorem Fw.drewN {B : Nat} {S : List Nat} {a w : World} (h : Fw B S a w) (n : Nat) : Fw B S a (w.drewN n) := ⟨⟨h.below.os, h.below.tape, h.below.output, h.below.size, h.below.block⟩, h.kept⟩
theorem Fw.set {B : Nat} {S : List Nat} {a w : World} (h : Fw B S a w) {p : Addr} (hB : B ≤ p.block) (hp : p.block ∈ S ∨ a.heap.size ≤ p.block) (u : Value) : Fw B S a (w.setCell p u) :=
  ⟨h.below.setCell hB u, fun k o hk hn ho => (Below.heap_setCell _ _ _ _ (by rintro rfl; rcases hp with h1 | h1; exact hn h1; have := Lib.lt_of_heap hk; omega)).trans (h.kept k o hk hn ho)⟩
theorem Fw.of_kept {B b : Nat} {S : List Nat} {w w' : World} (h : Below B w w') (k : Lib.OthersKept 5 (some b) w w') (hb : b ∈ S) : Fw B S w w' :=
  ⟨h, fun i o hi hS ho => k i o hi (fun e => hS (by injection e with e; rw [e]; exact hb)) ho⟩
theorem Fw.blk {B : Nat} {S : List Nat} {w w' : World} (h : Fw B S w w') {g : Nat} {T : TypeId} {cs : Array Value} (hS : g ∉ S) (hT : T ≠ 5) (hb : Blk w g T cs) : Blk w' g T cs :=
  h.kept g _ hb hS (fun c fz e => hT (by injection e))
theorem Fw.size {B : Nat} {S : List Nat} {w w' : World} (h : Fw B S w w') : w.heap.size ≤ w'.heap.size := h.below.size
theorem Fw.mono {B : Nat} {S S' : List Nat} {a b : World} (h : Fw B S a b) (hS : ∀ x ∈ S, x ∈ S' ∨ a.heap.size ≤ x) : Fw B S' a b :=
  ⟨h.below, fun k o hk hn ho => h.kept k o hk (fun hm => by rcases hS k hm with h1 | h1; exact hn h1; have := Lib.lt_of_heap hk; omega) ho⟩

end Go.Proofs.YtnhafphgkipldaaGreatDoor
