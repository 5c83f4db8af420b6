/- (impl.File).strings: all strings of a file are added to the writer, in their order. Conditions: the file is within the bounds of the statement. -/
import Derived.Test.YtnhafphgkipldaaGreatDoorRec3
import Derived.Test.YtnhafphgkipldaaGreatDoorOp
import Derived.Deep.DeepCutAuto
import Derived.Deep.CutBlock
import Derived.Deep.Light
namespace Go.Proofs.YtnhafphgkipldaaGreatDoor
open Go Go.RowKit

theorem Sl.elim {α : Type} {sz : Nat} {R : α → List Value → Prop} {w : World} {v : Value} {l : List α} (h : Sl sz R w v l) : ∃ (b off c : Nat) (A : Option Addr), v = .slice A l.length c ∧ (l ≠ [] → A = some ⟨b, off, none⟩) ∧ ∀ i x, l[i]? = some x → ∃ cs, R x cs ∧ cs.length = sz ∧ Cs w b (off + i * sz) cs := by
  obtain ⟨A, c, rfl, h⟩ := h
  cases l with
  | nil => exact ⟨0, 0, c, A, rfl, by simp, by simp⟩
  | cons x r =>
    obtain ⟨b, off, rfl, h2⟩ := h (by simp)
    exact ⟨b, off, c, _, rfl, fun _ => rfl, h2⟩

/-! ### what is added -/
def addAll (st : By × Tab) (ss : List ByteArray) : By × Tab := ss.foldl (fun st s => addS st s.data.toList) st
theorem addAll_snoc (st : By × Tab) (ss : List ByteArray) (s : ByteArray) : addAll st (ss ++ [s]) = addS (addAll st ss) s.data.toList := by simp [addAll]
theorem addAll_app (st : By × Tab) (a b : List ByteArray) : addAll st (a ++ b) = addAll (addAll st a) b := by simp [addAll]
theorem take_succ_map {α β : Type} (f : α → β) (l : List α) (k : Nat) (x : α) (hx : l[k]? = some x) : (l.take (k + 1)).map f = (l.take k).map f ++ [f x] := by
  rw [List.take_add_one, hx]; simp
theorem addS_len (st : By × Tab) (s : By) : (addS st s).1.length ≤ st.1.length + s.length ∧ (addS st s).2.length ≤ st.2.length + 1 ∧ st.1.length ≤ (addS st s).1.length := by
  unfold addS
  split <;> simp
theorem addAll_len (st : By × Tab) (ss : List ByteArray) (h : ∀ s ∈ ss, s.size ≤ 100) : (addAll st ss).1.length ≤ st.1.length + 100 * ss.length ∧ (addAll st ss).2.length ≤ st.2.length + ss.length := by
  induction ss generalizing st with
  | nil => simp [addAll]
  | cons s r ih =>
    have h1 := addS_len st s.data.toList
    have h2 := ih (addS st s.data.toList) (fun t ht => h t (by simp [ht]))
    have h3 := h s (by simp)
    have h4 := str_len s
    have e : addAll st (s :: r) = addAll (addS st s.data.toList) r := rfl
    rw [e, List.length_cons]
    omega

/-- What the loops carry: the strings 'pre' have been added, and what was there stands. -/
def SI (i : WId) (l : By) (M : Tab) (w1 : World) (pre : List ByteArray) (x : World) : Prop :=
  Wr i x (addAll (l, M) pre).1 (addAll (l, M) pre).2 ∧ Fw i.B i.S w1 x ∧ (∀ s ∈ pre, s.size ≤ 100) ∧ i.B ≤ w1.heap.size ∧ l.length ≤ 1000 ∧ M.length ≤ 1000
theorem SI.alloc {i : WId} {l : By} {M : Tab} {w1 x : World} {pre : List ByteArray} (h : SI i l M w1 pre x) (o : Obj) : SI i l M w1 pre (x.alloc o) :=
  ⟨h.1.alloc o, h.2.1.alloc h.1.size o, h.2.2⟩
theorem SI.fr0 {i : WId} {l : By} {M : Tab} {w1 x x' : World} {pre : List ByteArray} (h : SI i l M w1 pre x) (f : Fr [] x x') : SI i l M w1 pre x' :=
  ⟨h.1.keep f (by simp), h.2.1.trans (Fw.of_fr f h.1.size (by simp)), h.2.2⟩
theorem SI.newSet {i : WId} {l : By} {M : Tab} {w1 x x' : World} {pre : List ByteArray} {T : TypeId} {cs : Array Value} (h : SI i l M w1 pre x) (f : Fr [x.heap.size] (x.alloc (.cells cs T)) x') (h5 : T ≠ 5) (h113 : T ≠ 113) (h69 : T ≠ 69) : SI i l M w1 pre x' :=
  ⟨(h.1.alloc _).keep f (not_row (Blk.new x T cs) h5 h113 h69), (h.2.1.alloc h.1.size _).thenNew f h.2.2.2.1 h.2.1.size, h.2.2⟩
theorem addString_SI (i : WId) (l : By) (M : Tab) (w1 x : World) (pre : List ByteArray) (s : ByteArray) (h : SI i l M w1 pre x) (hs : s.size ≤ 100) (hp : pre.length ≤ 1000) :
    Calls Tryz.prog 48 #[.pointer (some ⟨i.wb, 0, none⟩), .string s] x fun e x' => e = .returned (.tuple #[]) ∧ SI i l M w1 (pre ++ [s]) x' := by
  have hl := addAll_len (l, M) pre h.2.2.1
  have h1 := h.2.2.2.2.1
  have h2 := h.2.2.2.2.2
  refine (addString_any i x _ _ s (by simp only at hl; omega) (by omega) h.1 (by simp only at hl; omega)).mono ?_
  rintro e x' ⟨rfl, k1, k2⟩
  refine ⟨rfl, ?_, h.2.1.trans k2, ?_, h.2.2.2⟩
  · rw [addAll_snoc]; exact k1
  · intro t ht
    rcases List.mem_append.1 ht with h3 | h3
    · exact h.2.2.1 t h3
    · simp only [List.mem_singleton] at h3; rw [h3]; exact hs

/-- A file within the bounds of the statement. -/
structure Small (F : Fil) : Prop where
  defs : ∀ d ∈ F.own ++ F.short ++ F.hashed ++ F.other, d.name.size ≤ 100 ∧ d.data.size ≤ 200 ∧ d.rels.length ≤ 20 ∧ d.auxs.length ≤ 20
  refs : ∀ r ∈ F.refs, r.name.size ≤ 100
  names : ∀ r ∈ F.refNames, r.name.size ≤ 100
  imps : ∀ r ∈ F.imports, r.pkg.size ≤ 100
  pkgs : ∀ s ∈ F.packages, s.size ≤ 100
  files : ∀ s ∈ F.files, s.size ≤ 100
  nDefs : (F.own ++ F.short ++ F.hashed ++ F.other).length ≤ 60
  nRefs : F.refs.length ≤ 60
  nFlags : F.refFlags.length ≤ 60
  nNames : F.refNames.length ≤ 60
  nImps : F.imports.length ≤ 60
  nPkgs : F.packages.length ≤ 60
  nFiles : F.files.length ≤ 60
  h64 : F.hashes64.length = F.short.length
  h128 : F.hashes.length = F.hashed.length

theorem Fw.old {B : Nat} {S : List Nat} {w0 w x : World} (h : Below w0.heap.size w0 w) (k : Fw B S w x) (hB : w0.heap.size ≤ B) : Below w0.heap.size w0 x := h.trans (k.below.mono hB)

theorem Wr.fr0 {i : WId} {w w' : World} {l : By} {M : Tab} (h : Wr i w l M) (f : Fr [] w w') : Wr i w' l M ∧ Fw i.B i.S w w' := ⟨h.keep f (by simp), Fw.of_fr f h.size (by simp)⟩

/-- One element of a list that a slice reads as, in a later world. -/
theorem Sl.at_ {w0 x : World} {b off sz i : Nat} {cs : List Value} (hc : Cs w0 b (off + i * sz) cs) (hl : cs.length = sz) (hsz : 0 < sz) (hx : Below w0.heap.size w0 x) : Cs x b (off + i * sz) cs :=
  hc.below hx (cs_lt hc (by omega))

set_option maxHeartbeats 400000 in
set_option maxRecDepth 100000 in
theorem lists_any (w : World) (cs : List Value) (A3 A4 A5 A6 : Option Addr) (n3 n4 n5 n6 c3 c4 c5 c6 : Nat) (e3 : cs[12]? = some (.slice A3 n3 c3)) (e4 : cs[13]? = some (.slice A4 n4 c4)) (e5 : cs[14]? = some (.slice A5 n5 c5)) (e6 : cs[15]? = some (.slice A6 n6 c6)) :
    Calls Tryz.prog 49 #[.agg cs.toArray] w fun e w' => e = .returned (.agg #[.slice A3 n3 c3, .slice A4 n4 c4, .slice A5 n5 c5, .slice A6 n6 c6]) ∧ Fr [] w w' := by
  have B0 := (Blk.new w 33 cs.toArray).alloc (.cells #[.slice none 0 0, .slice none 0 0, .slice none 0 0, .slice none 0 0] 84)
  have d3 := (B0.cell 12).trans (by simpa using e3)
  have d4 := (B0.cell 13).trans (by simpa using e4)
  have d5 := (B0.cell 14).trans (by simpa using e5)
  have d6 := (B0.cell 15).trans (by simpa using e6)
  clear e3 e4 e5 e6 B0
  go_enter Tryz.func49, Tryz.ntmps49
  go_wp2
  exact bodyPost_ret (v := .agg #[_, _, _, _]) (by simp [results, Tryz.results49, go_sem]) rfl ⟨rfl, ((Fr.refl [] w).alloc _).alloc _⟩

end Go.Proofs.YtnhafphgkipldaaGreatDoor
