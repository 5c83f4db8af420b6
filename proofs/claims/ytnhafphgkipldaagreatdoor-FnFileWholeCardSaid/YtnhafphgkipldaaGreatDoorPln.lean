/- A region that draws its order, walked by a plan: what only reads is taken first, what writes comes up alone, and a tail that stands in a row. Plain; no walk. Conditions: none. -/
import Derived.Test.YtnhafphgkipldaaGreatDoorStp
import Derived.OrdersHeld
import Derived.StillTail
import Derived.Deep.RegionHeld3
import Derived.RegionTactic
namespace Go.Proofs.YtnhafphgkipldaaGreatDoor
open Go

section
variable {P : Program} {ops : Array Oper} {Q : Exit → Act → World → Prop} {md : Region.Mode} {S : World → Prop} {n : Nat}

/-- The head of the region, in whatever order; behind each step S holds; L stands at its end. -/
def wpAnyB (P : Program) (md : Region.Mode) (ops : Array Oper) (Q : Exit → Act → World → Prop) (S : World → Prop) (n : Nat) (L : Array Bool → Act → World → Prop) : Nat → Array Bool → Act → World → Prop
  | 0, listed, a, w => L listed a w
  | f + 1, listed, a, w =>
    Region.ready md ops listed ≠ [] ∧ ∀ i ∈ Region.ready md ops listed, i < n ∧ wpOp P ops Q i (fun a' w' => S w' ∧ wpAnyB P md ops Q S n L f (listed.setIfInBounds i true) a' w') a w

theorem wpAny_of_B {g : Nat} {L : Array Bool → Act → World → Prop} (hL : ∀ listed a w, L listed a w → wpAny P md ops Q g listed a w) :
    ∀ (f : Nat) (listed : Array Bool) (a : Act) (w : World), wpAnyB P md ops Q S n L f listed a w → wpAny P md ops Q (f + g) listed a w
  | 0, listed, a, w, h => by rw [Nat.zero_add]; exact hL _ _ _ h
  | f + 1, listed, a, w, h => by
    rw [show f + 1 + g = (f + g) + 1 by omega]
    exact ⟨fun h0 => absurd h0 h.1, fun i hi => wpOp_mono (fun a' w' h' => wpAny_of_B hL f _ a' w' h'.2) (h.2 i hi).2⟩

theorem wpAnyB_first {i : Nat} {oi : Oper} {v : Value} {L : Array Bool → Act → World → Prop} (hi : ops[i]? = some oi) (hsel : ∀ (j : Nat) (o : Oper) cs b, ops[j]? = some o → o.op ≠ .select cs b)
    (hQ : ∀ c a w, Q (.panic c) (a.put oi.dst v) w → Q (.panic c) a w)
    (hs : Region.sinkB md ops n = true) (hc : Region.chainB md ops n = true) (hn : n < ops.size) (hin : i < n)
    (hdone : ∀ listed a w, L listed a w → ∀ j ∈ Region.ready md ops listed, n ≤ j) :
    ∀ (f : Nat) (listed : Array Bool) (a : Act) (w : World), HeadInv md ops n listed →
      (∀ j oj, ops[j]? = some oj → j ≠ i → listed.getD j true = false → (∀ e ∈ oj.after, Region.binds md e = true → e.on ≠ i) → oi.apart ops oj = true) →
      i ∈ Region.ready md ops listed → YieldsIf P ops S oi v a → S w →
      wpAnyB P md ops Q S n L f (listed.setIfInBounds i true) (a.put oi.dst v) w → wpAnyB P md ops Q S n L (f + 1) listed a w := by
  intro f
  induction f with
  | zero =>
    intro listed a w inv _ hr hy hS H
    have hun := (mem_ready.1 hr).1
    refine ⟨fun h => (by rw [h] at hr; cases hr), fun j hj => ?_⟩
    have hjn : j < n := by
      rcases Nat.lt_or_ge j n with h | h
      · exact h
      · exact absurd hj (tail_waits hs hc hn inv _ i rfl hin hun j h)
    refine ⟨hjn, ?_⟩
    by_cases hji : j = i
    · subst hji; exact hy.wpOp hi hS ⟨hS, H⟩
    · have := hdone _ _ _ H j (ready_mono hj hji)
      omega
  | succ f ih =>
    intro listed a w inv hfree hr hy hS H
    have hun := (mem_ready.1 hr).1
    refine ⟨fun h => (by rw [h] at hr; cases hr), fun j hj => ?_⟩
    have hjn : j < n := by
      rcases Nat.lt_or_ge j n with h | h
      · exact h
      · exact absurd hj (tail_waits hs hc hn inv _ i rfl hin hun j h)
    refine ⟨hjn, ?_⟩
    by_cases hji : j = i
    · subst hji; exact hy.wpOp hi hS ⟨hS, H⟩
    · have h1 := (H.2 j (ready_mono hj hji)).2
      obtain ⟨hjun, oj, hoj, hall⟩ := mem_ready.1 hj
      have hnot : ∀ e ∈ oj.after, Region.binds md e = true → e.on ≠ i := fun e he hb heq => by
        have h1 := hall e he hb
        rw [heq, getD_both hun] at h1
        cases h1
      have h2 := wpOp_putIf hoj (hfree j oj hoj hji hjun hnot) (fun cs b => hsel i oi cs b hi) (fun cs b => hsel j oj cs b hoj) hQ hy h1
      have hfree' : ∀ k ok, ops[k]? = some ok → k ≠ i → (listed.setIfInBounds j true).getD k true = false →
          (∀ e ∈ ok.after, Region.binds md e = true → e.on ≠ i) → oi.apart ops ok = true := fun k ok hk hki hun hno => by
        refine hfree k ok hk hki ?_ hno
        by_cases hjk : j = k
        · subst hjk; exact hjun
        · rw [getD_set_ne true hjk] at hun; exact hun
      refine wpOp_mono (fun a' w' h3 => ⟨h3.2.1, ih (listed.setIfInBounds j true) a' w' (inv.set hj hjn) hfree' (ready_mono hr (Ne.symm hji)) h3.1 h3.2.1 ?_⟩) h2
      rw [Array.setIfInBounds_comm _ _ hji]
      exact h3.2.2

/-- Is the plan one that the region's edges let by? 'true': taken first. 'false': it comes up alone. -/
def planB (md : Region.Mode) (ops : Array Oper) (n g : Nat) : List (Nat × Bool) → Array Bool → Bool
  | [], listed => Region.seqB md ops g n listed
  | (i, true) :: r, listed => decide (i < n) && (Region.ready md ops listed).contains i && Region.free md ops listed i && planB md ops n g r (listed.setIfInBounds i true)
  | (i, false) :: r, listed => decide (i < n) && decide (Region.ready md ops listed = [i]) && planB md ops n g r (listed.setIfInBounds i true)
/-- The walk along the plan. -/
def wpPlan (P : Program) (ops : Array Oper) (Q : Exit → Act → World → Prop) (S : World → Prop) (tl : List Oper) : List (Nat × Bool) → Act → World → Prop
  | [], a, w => wpList P ops Q tl a w
  | (i, true) :: r, a, w => ∃ o v, ops[i]? = some o ∧ YieldsIf P ops S o v a ∧ wpPlan P ops Q S tl r (a.put o.dst v) w
  | (i, false) :: r, a, w => wpOp P ops Q i (fun a' w' => S w' ∧ wpPlan P ops Q S tl r a' w') a w

theorem wpAnyB_plan {g : Nat} {tl : List Oper} (hsel : Region.noSelect ops = true) (hs : Region.sinkB md ops n = true) (hc : Region.chainB md ops n = true) (hn : n < ops.size)
    (hQ : ∀ c a d v w, Q (.panic c) (a.put d v) w → Q (.panic c) a w) :
    ∀ (r : List (Nat × Bool)) (listed : Array Bool) (a : Act) (w : World), HeadInv md ops n listed → planB md ops n g r listed = true → S w → wpPlan P ops Q S tl r a w →
    wpAnyB P md ops Q S n (fun listed' a' w' => Region.seqB md ops g n listed' = true ∧ wpList P ops Q tl a' w') r.length listed a w
  | [], listed, a, w, _, hB, _, h => ⟨hB, h⟩
  | (i, true) :: r, listed, a, w, inv, hB, hS, h => by
    simp only [planB, Bool.and_eq_true, decide_eq_true_eq] at hB
    obtain ⟨⟨⟨hin, hr⟩, hf⟩, hB'⟩ := hB
    obtain ⟨o, v, ho, hy, hK⟩ := h
    have hr' : i ∈ Region.ready md ops listed := by simpa using hr
    exact wpAnyB_first ho (Region.noSelect_spec hsel) (fun c a w => hQ c a _ _ w) hs hc hn hin (fun listed' a' w' hL => seqB_ready hL.1) r.length listed a w inv (Region.free_spec ho hf) hr' hy hS
      (wpAnyB_plan hsel hs hc hn hQ r _ _ w (inv.set hr' hin) hB' hS hK)
  | (i, false) :: r, listed, a, w, inv, hB, hS, h => by
    simp only [planB, Bool.and_eq_true, decide_eq_true_eq] at hB
    obtain ⟨⟨hin, hr⟩, hB'⟩ := hB
    have hmem : i ∈ Region.ready md ops listed := by rw [hr]; simp
    refine ⟨by rw [hr]; simp, fun j hj => ?_⟩
    rw [hr] at hj
    have : j = i := by simpa using hj
    subst this
    exact ⟨hin, wpOp_mono (fun a' w' h' => ⟨h'.1, wpAnyB_plan hsel hs hc hn hQ r _ a' w' (inv.set hmem hin) hB' h'.1 h'.2⟩) h⟩

def regionB (md : Region.Mode) (ops : Array Oper) (n : Nat) (r : List (Nat × Bool)) : Bool :=
  Region.noSelect ops && decide (n < ops.size) && Region.sinkB md ops n && Region.chainB md ops n && decide (r.length = n) && planB md ops n (ops.size - n) r (Array.replicate ops.size false)

/-- A region that draws its order, along a plan; it is shown not to panic. -/
theorem wp_region_plan {id : Nat} {a : Act} {w : World} {l : List Oper} (n : Nat) (r : List (Nat × Bool)) (S : World → Prop) (hm : P.follows .mixedOrders = true) (hB : regionB .any l.toArray n r = true) (hS : S w.drew)
    (h : wpPlan P l.toArray (NoPanic Q) S (l.drop n) r a w.drew) : (Code.region id l.toArray true).wp P Q a w := by
  refine wp_region_noPanic ?_
  simp only [regionB, Bool.and_eq_true, decide_eq_true_eq] at hB
  obtain ⟨⟨⟨⟨⟨hsel, hn⟩, hs⟩, hc⟩, hlen⟩, hplan⟩ := hB
  have hdl : (l.drop n).length = l.toArray.size - n := by simp
  have inv0 : HeadInv .any l.toArray n (Array.replicate l.toArray.size false) :=
    ⟨by simp, fun j oj _ hl => (by rw [getD_replicate_false] at hl; cases hl), fun t _ ht => getD_in (by simpa using ht) (getD_replicate_false _ _)⟩
  have H := wpAnyB_plan (md := .any) (g := l.toArray.size - n) (tl := l.drop n) hsel hs hc hn (fun _ _ _ _ _ h => (h : False)) r _ a w.drew inv0 hplan hS h
  refine wp_region_any hm ?_
  have := wpAny_of_B (Q := NoPanic Q) (g := l.toArray.size - n) (fun listed a' w' hL => by
    have := wpAny_of_seq (md := .any) (Q' := NoPanic Q) (l.drop n) n listed a' w' (fun j => by simp [List.getElem?_drop]) (by rw [hdl]; exact hL.1) hL.2
    rwa [hdl] at this) _ _ _ _ H
  have hn' : n < l.length := by simpa using hn
  rw [hlen, show n + (l.toArray.size - n) = l.toArray.size by simp; omega] at this
  exact this

theorem drop_at {α : Type} {l t : List α} {i : Nat} {o : α} (h : l.drop i = o :: t) : l.toArray[i]? = some o := by
  rw [List.getElem?_toArray]
  have := congrArg (fun u => u[0]?) h
  simpa [List.getElem?_drop] using this
/-- A row of steps that only read, taken first; then whatever follows. -/
def wpQ (P : Program) (ops : Array Oper) (S : World → Prop) (R : Act → Prop) : List Nat → Act → Prop
  | [], a => R a
  | i :: r, a => ∃ o v, ops[i]? = some o ∧ YieldsIf P ops S o v a ∧ wpQ P ops S R r (a.put o.dst v)
def quietB (md : Region.Mode) (ops : Array Oper) : List Nat → Array Bool → Option (Array Bool)
  | [], l => some l
  | i :: r, l => if (Region.ready md ops l).contains i && Region.free md ops l i then quietB md ops r (l.setIfInBounds i true) else none
theorem wpAnyH_quiet {f : Nat} {L : Array Bool} {w : World} (hsel : Region.noSelect ops = true) (hQ : ∀ c a d v w, Q (.panic c) (a.put d v) w → Q (.panic c) a w) (hS : S w) :
    ∀ (r : List Nat) (listed : Array Bool) (a : Act), quietB md ops r listed = some L → wpQ P ops S (fun a' => wpAnyH P md ops Q S f L a' w) r a → wpAnyH P md ops Q S (r.length + f) listed a w
  | [], listed, a, hB, h => by
    simp only [quietB, Option.some.injEq] at hB
    subst hB
    rw [List.length_nil, Nat.zero_add]; exact h
  | i :: r, listed, a, hB, h => by
    simp only [quietB] at hB
    split at hB
    · rename_i hc
      simp only [Bool.and_eq_true] at hc
      obtain ⟨o, v, ho, hy, hK⟩ := h
      rw [List.length_cons, show r.length + 1 + f = (r.length + f) + 1 by omega]
      exact wpAnyH_first ho (Region.noSelect_spec hsel) (fun c a w => hQ c a _ _ w) (r.length + f) listed a w (Region.free_spec ho hc.2) (by simpa using hc.1) hy hS (wpAnyH_quiet hsel hQ hS r _ _ hB hK)
    · cases hB
theorem wp_region_q {id : Nat} {a : Act} {w : World} {l : List Oper} (r : List Nat) (f : Nat) (L : Array Bool) (S : World → Prop) (hm : P.follows .mixedOrders = true) (hsel : Region.noSelect l.toArray = true) (hlen : r.length + f = l.length) (hB : quietB .any l.toArray r (Array.replicate l.toArray.size false) = some L) (hS : S w.drew)
    (h : wpQ P l.toArray S (fun a' => wpAnyH P .any l.toArray (NoPanic Q) S f L a' w.drew) r a) : (Code.region id l.toArray true).wp P Q a w := by
  refine wp_region_noPanic ?_
  refine wp_region_held (S := S) hm ?_
  have := wpAnyH_quiet (md := .any) (Q := NoPanic Q) hsel (fun _ _ _ _ _ h => (h : False)) hS r _ a hB h
  rw [hlen] at this
  simpa using this
theorem q_q {l t : List Oper} {R : Act → Prop} {i : Nat} {o : Oper} (v : Value) {r : List Nat} {a : Act} (hd : l.drop i = o :: t) (hg : o.guard = none)
    (hrun : ∀ z, S z → (execOp a.eval o).run P z = .ok (.value v) z) (h : wpQ P l.toArray S R r (a.put o.dst v)) : wpQ P l.toArray S R (i :: r) a :=
  ⟨o, v, drop_at hd, .inl ⟨by simp [Region.wanted, hg], hrun⟩, h⟩
theorem q_move {l t : List Oper} {R : Act → Prop} {i : Nat} {o : Oper} {r : List Nat} {a : Act} (x : Operand) (v : Value) (hd : l.drop i = o :: t) (hg : o.guard = none) (hop : o.op = .move x) (hv : a.eval x = v)
    (h : wpQ P l.toArray S R r (a.put o.dst v)) : wpQ P l.toArray S R (i :: r) a :=
  q_q v hd hg (fun z _ => by simp [execOp, hop, hv]) h
theorem q_load {l t : List Oper} {R : Act → Prop} {i : Nat} {o : Oper} {r : List Nat} {a : Act} (T : TypeId) (x : Operand) (b off : Nat) (xs : List Value) (hd : l.drop i = o :: t) (hg : o.guard = none) (hop : o.op = .load T x) (hx : a.eval x = .pointer (some ⟨b, off, none⟩))
    (hagg : ∀ z, (isAgg T).run P z = .ok true z) (hsz : ∀ z, (sizeOf T).run P z = .ok xs.length z) (hc : ∀ z, S z → Cs z b off xs)
    (h : wpQ P l.toArray S R r (a.put o.dst (.agg xs.toArray))) : wpQ P l.toArray S R (i :: r) a := by
  refine q_q _ hd hg (fun z hz => ?_) h
  have hl := run_loadCells_list (P := P) z ⟨b, off, none⟩ xs (hc z hz).addr
  have hrun : (Instr.loadAt T (.pointer (some ⟨b, off, none⟩))).run P z = .ok (.agg xs.toArray) z := by
    simp [Instr.loadAt, Instr.sureAddr, loadVar, hagg, hsz, hl, Result.andThen]
  simp [execOp, hop, hx, hrun, Result.andThen]
theorem q_nil {R : Act → Prop} {a : Act} (h : R a) : wpQ P ops S R [] a := h
/-- One operation may come up. -/
theorem held_step {l t : List Oper} {i fuel : Nat} {o : Oper} {listed : Array Bool} {a : Act} {w : World} (hd : l.drop i = o :: t) (hg : o.guard = none)
    (h : if Region.wanted o (yielded l.toArray a.tmps) = true then Oper.wp P o a w (fun a' w' => S w' ∧ wpAnyH P md l.toArray Q S fuel (listed.setIfInBounds i true) a' w') Q else True) :
    wpOp P l.toArray Q i (fun a' w' => S w' ∧ wpAnyH P md l.toArray Q S fuel (listed.setIfInBounds i true) a' w') a w := by
  have hw : Region.wanted o (yielded l.toArray a.tmps) = true := by simp [Region.wanted, hg]
  rw [if_pos hw] at h
  unfold wpOp
  rw [drop_at hd]
  simp only [hw, if_true]
  exact .inl h
theorem held_one {i fuel : Nat} {listed : Array Bool} {a : Act} {w : World} (hr : Region.ready md ops listed = [i]) (h : wpOp P ops Q i (fun a' w' => S w' ∧ wpAnyH P md ops Q S fuel (listed.setIfInBounds i true) a' w') a w) : wpAnyH P md ops Q S (fuel + 1) listed a w :=
  wpAnyH_all hr (by simp) (fun j hj => by simp only [List.mem_singleton] at hj; subst hj; exact h)
theorem held_two {i j fuel : Nat} {listed : Array Bool} {a : Act} {w : World} (hr : Region.ready md ops listed = [i, j]) (h : wpOp P ops Q i (fun a' w' => S w' ∧ wpAnyH P md ops Q S fuel (listed.setIfInBounds i true) a' w') a w)
    (h2 : wpOp P ops Q j (fun a' w' => S w' ∧ wpAnyH P md ops Q S fuel (listed.setIfInBounds j true) a' w') a w) : wpAnyH P md ops Q S (fuel + 1) listed a w :=
  wpAnyH_all hr (by simp) (fun k hk => by
    simp only [List.mem_cons, List.not_mem_nil, or_false] at hk
    rcases hk with rfl | rfl
    · exact h
    · exact h2)
theorem held_done {listed : Array Bool} {a : Act} {w : World} (hr : Region.ready md ops listed = []) (h : Q .normal a w) : wpAnyH P md ops (NoPanic Q) S 0 listed a w := ⟨hr, NoPanic.normal h⟩
/-- A variable is made. -/
theorem step_alloc {o : Oper} {a : Act} {w : World} {K : Act → World → Prop} {E : Prop} (hg : o.guard = none) (T : TypeId) (hop : o.op = .alloc T) (zs : Array Value) (z : Value) (hz : (zeroValue T).run P w = .ok z w) (hzs : z.cells = zs)
    (h : K (a.put o.dst (.pointer (some ⟨w.heap.size, 0, none⟩))) (w.alloc (.cells zs T))) : if Region.wanted o (yielded ops a.tmps) = true then Oper.wp P o a w K Q else E := by
  refine step_wp hg ?_
  unfold Oper.wp
  have hrun : (Instr.alloc T true (.tuple #[])).run P w = .ok (.pointer (some ⟨w.heap.size, 0, none⟩)) (w.alloc (.cells zs T)) := by
    subst hzs
    simp only [Instr.alloc, newVar, newRow, Sem.run_bind, hz, Result.andThen_ok]
    rfl
  simp [execOp, hop, hrun, Result.andThen]
  exact h
/-- A struct is stored into a block that it fills. -/
theorem step_store_all {o : Oper} {a : Act} {w : World} {K : Act → World → Prop} {E : Prop} (hg : o.guard = none) (T : TypeId) (x v : Operand) (hop : o.op = .store T x v) (b : Nat) (T' : TypeId) (ys : Array Value) (xs : List Value) (hx : a.eval x = .pointer (some ⟨b, 0, none⟩)) (hv : a.eval v = .agg xs.toArray)
    (hsz : (sizeOf T).run P w = .ok xs.length w) (hb : Blk w b T' ys) (hl : ys.size = xs.length) (h1 : ∀ v ∈ xs, v.oneCell' = true)
    (hK : ∀ w', Blk w' b T' xs.toArray → Fr [b] w w' → K (a.put o.dst undef) w') : if Region.wanted o (yielded ops a.tmps) = true then Oper.wp P o a w K Q else E := by
  refine step_wp hg ?_
  have hst := run_storeCells_at (P := P) b 0 T' xs 0 ys w hb (by omega) h1
  have hrun : (Instr.storeAt T (.pointer (some ⟨b, 0, none⟩)) (.agg xs.toArray)).run P w = .ok () (w.setRow b xs.toArray) := by
    simp [Instr.storeAt, Instr.sureAddr, storeVar, hsz, Result.andThen, Value.cells]
    rw [hst]
    congr 2
    simp [hl]
  unfold Oper.wp
  simp [execOp, hop, hx, hv, hrun, Result.andThen]
  exact hK (w.setRow b xs.toArray) (setRow_heap w b _ _ T' (0, 0) hb) ⟨rfl, rfl, rfl, by simp, fun k _ hk => setRow_other w b k _ (by simpa using hk)⟩
/-- A step that only reads. -/
theorem plan_q {l t : List Oper} {tl : List Oper} {i : Nat} {o : Oper} (v : Value) {r : List (Nat × Bool)} {a : Act} {w : World} (hd : l.drop i = o :: t) (hg : o.guard = none)
    (hrun : ∀ z, S z → (execOp a.eval o).run P z = .ok (.value v) z) (h : wpPlan P l.toArray Q S tl r (a.put o.dst v) w) : wpPlan P l.toArray Q S tl ((i, true) :: r) a w :=
  ⟨o, v, drop_at hd, .inl ⟨by simp [Region.wanted, hg], hrun⟩, h⟩
/-- A step that comes up alone. -/
theorem plan_l {l t : List Oper} {tl : List Oper} {i : Nat} {o : Oper} {r : List (Nat × Bool)} {a : Act} {w : World} (hd : l.drop i = o :: t)
    (h : if Region.wanted o (yielded l.toArray a.tmps) = true then Oper.wp P o a w (fun a' w' => S w' ∧ wpPlan P l.toArray Q S tl r a' w') Q else True) (hg : o.guard = none) : wpPlan P l.toArray Q S tl ((i, false) :: r) a w := by
  show wpOp P l.toArray Q i _ a w
  have hw : Region.wanted o (yielded l.toArray a.tmps) = true := by simp [Region.wanted, hg]
  rw [if_pos hw] at h
  unfold wpOp
  rw [drop_at hd]
  simp only [hw, if_true]
  exact .inl h
theorem plan_nil {tl : List Oper} {a : Act} {w : World} (h : wpList P ops Q tl a w) : wpPlan P ops Q S tl [] a w := h
/-- A move. -/
theorem plan_move {l t : List Oper} {tl : List Oper} {i : Nat} {o : Oper} {r : List (Nat × Bool)} {a : Act} {w : World} (x : Operand) (v : Value) (hd : l.drop i = o :: t) (hg : o.guard = none) (hop : o.op = .move x) (hv : a.eval x = v)
    (h : wpPlan P l.toArray Q S tl r (a.put o.dst v) w) : wpPlan P l.toArray Q S tl ((i, true) :: r) a w :=
  plan_q v hd hg (fun z _ => by simp [execOp, hop, hv]) h
/-- A struct's load. -/
theorem plan_load {l t : List Oper} {tl : List Oper} {i : Nat} {o : Oper} {r : List (Nat × Bool)} {a : Act} {w : World} (T : TypeId) (x : Operand) (b off : Nat) (xs : List Value) (hd : l.drop i = o :: t) (hg : o.guard = none) (hop : o.op = .load T x) (hx : a.eval x = .pointer (some ⟨b, off, none⟩))
    (hagg : ∀ z, (isAgg T).run P z = .ok true z) (hsz : ∀ z, (sizeOf T).run P z = .ok xs.length z) (hc : ∀ z, S z → Cs z b off xs)
    (h : wpPlan P l.toArray Q S tl r (a.put o.dst (.agg xs.toArray)) w) : wpPlan P l.toArray Q S tl ((i, true) :: r) a w := by
  refine plan_q _ hd hg (fun z hz => ?_) h
  have hl := run_loadCells_list (P := P) z ⟨b, off, none⟩ xs (hc z hz).addr
  have hrun : (Instr.loadAt T (.pointer (some ⟨b, off, none⟩))).run P z = .ok (.agg xs.toArray) z := by
    simp [Instr.loadAt, Instr.sureAddr, loadVar, hagg, hsz, hl, Result.andThen]
  simp [execOp, hop, hx, hrun, Result.andThen]
/-- A cell's load. -/
theorem plan_cell {l t : List Oper} {tl : List Oper} {i : Nat} {o : Oper} {r : List (Nat × Bool)} {a : Act} {w : World} (T : TypeId) (x : Operand) (p : Addr) (v : Value) (hd : l.drop i = o :: t) (hg : o.guard = none) (hop : o.op = .load T x) (hx : a.eval x = .pointer (some p))
    (hagg : ∀ z, (isAgg T).run P z = .ok false z) (hc : ∀ z, S z → z.cell? p = some v)
    (h : wpPlan P l.toArray Q S tl r (a.put o.dst v) w) : wpPlan P l.toArray Q S tl ((i, true) :: r) a w := by
  refine plan_q _ hd hg (fun z hz => ?_) h
  have := hc z hz
  have hrun : (Instr.loadAt T (.pointer (some p))).run P z = .ok v z := by
    simp [Instr.loadAt, Instr.sureAddr, loadVar, hagg, this, Result.andThen, go_sem]
  simp [execOp, hop, hx, hrun, Result.andThen]
theorem plan_build5 {l t : List Oper} {tl : List Oper} {i : Nat} {o : Oper} {r : List (Nat × Bool)} {a : Act} {w : World} (T : TypeId) (x0 x1 x2 x3 x4 : Operand) (v0 v1 v2 v3 v4 u : Value) (hd : l.drop i = o :: t) (hg : o.guard = none) (hop : o.op = Op.build T #[(0, x0), (1, x1), (2, x2), (3, x3), (4, x4)])
    (h0 : a.eval x0 = v0) (h1 : a.eval x1 = v1) (h2 : a.eval x2 = v2) (h3 : a.eval x3 = v3) (h4 : a.eval x4 = v4)
    (hb : ∀ z, (Instr.build T #[(0, v0), (1, v1), (2, v2), (3, v3), (4, v4)]).run P z = .ok u z)
    (h : wpPlan P l.toArray Q S tl r (a.put o.dst u) w) : wpPlan P l.toArray Q S tl ((i, true) :: r) a w :=
  plan_q u hd hg (fun z _ => by simp [execOp, hop, h0, h1, h2, h3, h4, hb z, Result.andThen]) h
theorem step_call2 {o : Oper} {a : Act} {w : World} {K : Act → World → Prop} {E : Prop} (hg : o.guard = none) (f : Nat) (x1 x2 : Operand) (ts : Array TypeId) (ho : o.op = .call { callee := .value (.func f), args := #[x1, x2], argTypes := ts }) (v1 v2 : Value) (h1 : a.eval x1 = v1) (h2 : a.eval x2 = v2)
    (hf : (callFunc f #[v1, v2]).run P w = .ok (.enter f #[v1, v2]) w) {R : Ending → World → Prop} (hc : Calls P f #[v1, v2] w R) (hR : ∀ e w', R e w' → ∃ v, e = .returned v ∧ K (a.put o.dst v) w') : if Region.wanted o (yielded ops a.tmps) = true then Oper.wp P o a w K Q else E :=
  step_call hg f #[x1, x2] ts ho _ (by simp [h1, h2]) hf hc hR
theorem step_call1 {o : Oper} {a : Act} {w : World} {K : Act → World → Prop} {E : Prop} (hg : o.guard = none) (f : Nat) (x1 : Operand) (ts : Array TypeId) (ho : o.op = .call { callee := .value (.func f), args := #[x1], argTypes := ts }) (v1 : Value) (h1 : a.eval x1 = v1)
    (hf : (callFunc f #[v1]).run P w = .ok (.enter f #[v1]) w) {R : Ending → World → Prop} (hc : Calls P f #[v1] w R) (hR : ∀ e w', R e w' → ∃ v, e = .returned v ∧ K (a.put o.dst v) w') : if Region.wanted o (yielded ops a.tmps) = true then Oper.wp P o a w K Q else E :=
  step_call hg f #[x1] ts ho _ (by simp [h1]) hf hc hR
/-- A store of a slice into a cell. -/
theorem step_storeS {o : Oper} {a : Act} {w : World} {K : Act → World → Prop} {E : Prop} (T : TypeId) (x y : Operand) (p : Addr) (A : Option Addr) (n c : Nat) (old : Value) (hg : o.guard = none) (hop : o.op = .store T x y) (hx : a.eval x = .pointer (some p)) (hy : a.eval y = .slice A n c) (hagg : (sizeOf T).run P w = .ok 1 w)
    (hc : w.cell? p = some old) (hz : w.frozen? p = false) (h : K (a.put o.dst undef) (w.setCell p (.slice A n c))) : if Region.wanted o (yielded ops a.tmps) = true then Oper.wp P o a w K Q else E := by
  refine step_wp hg ?_
  unfold Oper.wp
  have hrun : (Instr.storeAt T (.pointer (some p)) (.slice A n c)).run P w = .ok () (w.setCell p (.slice A n c)) := by
    simp [Instr.storeAt, Instr.sureAddr, storeVar, hagg, hc, hz, Result.andThen, go_sem]
  simp [execOp, hop, hx, hy, hrun, Result.andThen]
  exact h
/-- A tail of one store into a cell. -/
theorem tail_store {o : Oper} {a : Act} {w : World} (T : TypeId) (x y : Operand) (p : Addr) (A : Option Addr) (n c : Nat) (old : Value) (hg : o.guard = none) (hop : o.op = .store T x y) (hx : a.eval x = .pointer (some p)) (hy : a.eval y = .slice A n c) (hagg : (sizeOf T).run P w = .ok 1 w)
    (hc : w.cell? p = some old) (hz : w.frozen? p = false) (h : Q .normal (a.put o.dst undef) (w.setCell p (.slice A n c))) : wpList P ops (NoPanic Q) [o] a w := by
  refine wpList_plain hg fun K' hK' => ?_
  unfold Oper.wp
  have h' : K' (a.put o.dst undef) (w.setCell p (.slice A n c)) := hK' _ _ (NoPanic.normal h)
  have hrun : (Instr.storeAt T (.pointer (some p)) (.slice A n c)).run P w = .ok () (w.setCell p (.slice A n c)) := by
    simp [Instr.storeAt, Instr.sureAddr, storeVar, hagg, hc, hz, Result.andThen, go_sem]
  simp [execOp, hop, hx, hy, hrun, Result.andThen]
  exact h'
end

end Go.Proofs.YtnhafphgkipldaaGreatDoor
