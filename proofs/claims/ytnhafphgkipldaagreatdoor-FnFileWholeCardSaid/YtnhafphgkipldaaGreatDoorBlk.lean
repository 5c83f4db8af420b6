/- (impl.File).blocks: the blocks are written and their offsets kept. Conditions: the file is within the bounds of the statement; the writer knows all strings. -/
import Derived.Test.YtnhafphgkipldaaGreatDoorInd
namespace Go.Proofs.YtnhafphgkipldaaGreatDoor
open Go Go.RowKit

theorem rfd_sy {r : Rfd} {cs : List Value} (h : RfdR r cs) : cs[0]? = some (.string r.name) ∧ cs = [.string r.name] ++ r.sy.cells ++ [] := by
  rw [h.2]; exact ⟨rfl, by simp [Rfd.cells]⟩
theorem def_sy2 {w : World} {x : Def} {cs : List Value} (h : DefR w x cs) : x.sy.ok ∧ cs[0]? = some (.string x.name) ∧ ∃ t, cs = [.string x.name] ++ x.sy.cells ++ t := by
  obtain ⟨ho, vr, va, rfl, h1, h2⟩ := h
  exact ⟨ho, rfl, _, rfl⟩
theorem nam_parts {r : Nam} {cs : List Value} (h : NamR r cs) : r.ok ∧ cs[2]? = some (.string r.name) ∧ cs = [] ++ r.ref.cells ++ [.string r.name] := ⟨h.1, by rw [h.2]; rfl, h.2⟩
theorem imp_parts {r : Imp} {cs : List Value} (h : ImpR r cs) : r.ok ∧ cs[0]? = some (.string r.pkg) ∧ cs = [.string r.pkg] ++ Lib.byteCells r.fp ++ [] := ⟨h.1, by rw [h.2]; rfl, by rw [h.2]; simp [Imp.cells]⟩

theorem three_new (w : World) (T1 T2 T3 : TypeId) (c1 c2 c3 : Array Value) : Blk (((w.alloc (.cells c1 T1)).alloc (.cells c2 T2)).alloc (.cells c3 T3)) w.heap.size T1 c1 ∧ Blk (((w.alloc (.cells c1 T1)).alloc (.cells c2 T2)).alloc (.cells c3 T3)) (w.heap.size + 1) T2 c2 ∧
    Blk (((w.alloc (.cells c1 T1)).alloc (.cells c2 T2)).alloc (.cells c3 T3)) (w.heap.size + 2) T3 c3 := by
  refine ⟨((Blk.new w T1 c1).alloc _).alloc _, ?_, ?_⟩
  · have := (Blk.new (w.alloc (.cells c1 T1)) T2 c2).alloc (.cells c3 T3)
    simpa using this
  · have := Blk.new ((w.alloc (.cells c1 T1)).alloc (.cells c2 T2)) T3 c3
    simpa using this

theorem wpList_build {P : Program} (w : World) {ops : Array Oper} {rest : List Oper} {o : Oper} {a : Act} {Q : Exit → Act → World → Prop}
    (hg : o.guard = none) (t : TypeId) (x y : Operand) (hop : o.op = Op.build t #[(0, x), (1, y)]) (vx vy r : Value) (hx : a.eval x = vx) (hy : a.eval y = vy) (hb : (Instr.build t #[(0, vx), (1, vy)]).run P w = .ok r w) (hK : wpList P ops Q rest (a.put o.dst r) w) :
    wpList P ops Q (o :: rest) a w := by
  refine wpList_plain hg fun K' hK' => ?_
  unfold Oper.wp
  simp [execOp, hop, hx, hy, hb, Result.andThen]
  exact hK' _ _ hK
theorem build121 (s : ByteArray) (fp : By) (h : fp.length = 8) (W : World) : (Instr.build 121 #[(0, .string s), (1, .agg (Lib.byteCells fp).toArray)]).run Tryz.prog W = .ok (.agg (.string s :: Lib.byteCells fp).toArray) W := by
  match fp, h with
  | [a, b, c, d, e, f, g, h], _ => show _ = _; kernel_rfl

theorem results_cell {P : Program} (fn : Func) (a : Nat) (t : TypeId) (h : fn.results = #[.cell a t]) (tmps : Array Value) (b off : Nat) (hx : tmps.getD a undef = .pointer (some ⟨b, off, none⟩)) (w : World) (xs : List Value) (hagg : (isAgg t).run P w = .ok true w)
    (hsz : (sizeOf t).run P w = .ok xs.length w) (hc : Cs w b off xs) : (results fn tmps).run P w = .ok (.agg xs.toArray) w := by
  have hl := run_loadCells_list (P := P) w ⟨b, off, none⟩ xs hc.addr
  have hx' : tmps[a]?.getD undef = .pointer (some ⟨b, off, none⟩) := by rw [← hx]; simp
  simp [results, h, hx', asAddr, loadVar, hagg, hsz, hl, Result.andThen]

theorem Fw.below0 {B : Nat} {S : List Nat} {w w' : World} (h : Fw B S w w') : Fw B S w w' := h

def zero19 : List Int := [0, 0, 0, 0, 0, 0, 0, 0, 0, 0, 0, 0, 0, 0, 0, 0, 0, 0, 0]

set_option maxHeartbeats 3200000 in
set_option maxRecDepth 100000 in
theorem blocks_any (i : WId) (l : By) (M : Tab) (F : Fil) (v : Value) (w0 w : World) (hF : FilR w0 v F) (hS : Small F) (h0 : Below w0.heap.size w0 w) (hB : w0.heap.size ≤ i.B)
    (hM : ∀ s ∈ strs F, ∃ o, u32ok o ∧ tlook M s.data.toList = some o) (h : Wr i w l M) (hn : l.length + (blks F M).flatten.length ≤ 1000000) :
    Calls Tryz.prog 18 #[v, .pointer (some ⟨i.wb, 0, none⟩)] w fun e w' => e = .returned (.agg ((offs l.length (blks F M) 19).map (Value.int .u32 ·)).toArray) ∧ Wr i w' (l ++ (blks F M).flatten) M ∧ Fw i.B i.S w w' := by
  have hFv := Lib.hid hF
  obtain ⟨cs, v0, v1, v2, v3, v4, v5, v6, v7, v8, v9, v10, v11, rfl, hc, k⟩ := hF
  obtain ⟨b0, o0, c0, A0, rfl, hA0, E0⟩ := k.s0.elim
  obtain ⟨b1, o1, c1, A1, rfl, hA1, E1⟩ := k.s1.elim
  obtain ⟨b2, o2, c2, A2, rfl, hA2, E2⟩ := k.s2.elim
  obtain ⟨b3, o3, c3, A3, rfl, hA3, E3⟩ := k.s3.elim
  obtain ⟨b4, o4, c4, A4, rfl, hA4, E4⟩ := k.s4.elim
  obtain ⟨b5, o5, c5, A5, rfl, hA5, E5⟩ := k.s5.elim
  obtain ⟨b6, o6, c6, A6, rfl, hA6, E6⟩ := k.s6.elim
  obtain ⟨b7, o7, c7, A7, rfl, hA7, E7⟩ := k.s7.elim
  obtain ⟨b8, o8, c8, A8, rfl, hA8, E8⟩ := k.s8.elim
  obtain ⟨b9, o9, c9, A9, rfl, hA9, E9⟩ := k.s9.elim
  obtain ⟨b10, o10, c10, A10, rfl, hA10, E10⟩ := k.s10.elim
  obtain ⟨b11, o11, c11, A11, rfl, hA11, E11⟩ := k.s11.elim
  clear k
  have hK : ∀ k < 4, ∃ ls b o A c, LK F w0 (.agg #[.slice A3 F.own.length c3, .slice A4 F.short.length c4, .slice A5 F.hashed.length c5, .slice A6 F.other.length c6]) k ls b o A c := by
    intro k hk
    match k, hk with
    | 0, _ => exact ⟨F.own, b3, o3, A3, c3, rfl, E3, hA3, fun W => run_index_arr (n := 4) (by rfl) (fun w => Tryz.isAgg26 w) (fun w => Tryz.sizeOf26 w) _ 0 (by decide) _ rfl W⟩
    | 1, _ => exact ⟨F.short, b4, o4, A4, c4, rfl, E4, hA4, fun W => run_index_arr (n := 4) (by rfl) (fun w => Tryz.isAgg26 w) (fun w => Tryz.sizeOf26 w) _ 1 (by decide) _ rfl W⟩
    | 2, _ => exact ⟨F.hashed, b5, o5, A5, c5, rfl, E5, hA5, fun W => run_index_arr (n := 4) (by rfl) (fun w => Tryz.isAgg26 w) (fun w => Tryz.sizeOf26 w) _ 2 (by decide) _ rfl W⟩
    | 3, _ => exact ⟨F.other, b6, o6, A6, c6, rfl, E6, hA6, fun W => run_index_arr (n := 4) (by rfl) (fun w => Tryz.isAgg26 w) (fun w => Tryz.sizeOf26 w) _ 3 (by decide) _ rfl W⟩
  have hlb : (blks F M).length = 18 := rfl
  have g0 : (blks F M)[0]? = some (F.imports.flatMap (Imp.enc M)) := rfl
  have g1 : (blks F M)[1]? = some (F.packages.flatMap (sref M)) := rfl
  have g2 : (blks F M)[2]? = some (F.files.flatMap (sref M)) := rfl
  have g3 : ∀ k < 4, ∀ ls, (LL F)[k]? = some ls → (blks F M)[3 + k]? = some (ls.flatMap (fun d => d.rfd.enc M)) := by
    intro k hk ls hl
    match k, hk, hl with
    | 0, _, hl => cases hl; rfl
    | 1, _, hl => cases hl; rfl
    | 2, _, hl => cases hl; rfl
    | 3, _, hl => cases hl; rfl
  have g7 : (blks F M)[7]? = some (F.refs.flatMap (Rfd.enc M)) := rfl
  have g8 : (blks F M)[8]? = some (F.refFlags.flatMap Flg.enc) := rfl
  have g9 : (blks F M)[9]? = some (F.hashes64.flatMap le8) := rfl
  have g10 : (blks F M)[10]? = some (F.hashes.flatMap id) := rfl
  have g11 : ∀ k < 3, (blks F M)[11 + k]? = some (idxSt (cnt k) (defs F)).1 := by
    intro k hk
    match k, hk with
    | 0, _ => rfl
    | 1, _ => rfl
    | 2, _ => rfl
  have g14 : (blks F M)[14]? = some ((defs F).flatMap fun d => d.rels.flatMap Rel.enc) := rfl
  have g15 : (blks F M)[15]? = some ((defs F).flatMap fun d => d.auxs.flatMap Aux.enc) := rfl
  have g16 : (blks F M)[16]? = some ((defs F).flatMap fun d => d.data.data.toList) := rfl
  have g17 : (blks F M)[17]? = some (F.refNames.flatMap (Nam.enc M)) := rfl
  generalize blks F M = bs at hlb g0 g1 g2 g3 g7 g8 g9 g10 g11 g14 g15 g16 g17 hn ⊢
  have HI := Lib.hid h0; have HS := Lib.hid hS; have HC := Lib.hid hc; have HK := Lib.hid hK; have HM := Lib.hid hM; have HN := Lib.hid hn; have HLB := Lib.hid hlb
  have HE0 := Lib.hid E0; have HA0 := Lib.hid hA0
  have HE1 := Lib.hid E1; have HA1 := Lib.hid hA1
  have HE2 := Lib.hid E2; have HA2 := Lib.hid hA2
  have HE7 := Lib.hid E7; have HA7 := Lib.hid hA7
  have HE8 := Lib.hid E8; have HA8 := Lib.hid hA8
  have HE9 := Lib.hid E9; have HA9 := Lib.hid hA9
  have HE10 := Lib.hid E10; have HA10 := Lib.hid hA10
  have HE11 := Lib.hid E11; have HA11 := Lib.hid hA11
  have Q0 := Lib.hid g0
  have Q1 := Lib.hid g1
  have Q2 := Lib.hid g2
  have Q3 := Lib.hid g3
  have Q7 := Lib.hid g7
  have Q8 := Lib.hid g8
  have Q9 := Lib.hid g9
  have Q10 := Lib.hid g10
  have Q11 := Lib.hid g11
  have Q14 := Lib.hid g14
  have Q15 := Lib.hid g15
  have Q16 := Lib.hid g16
  have Q17 := Lib.hid g17
  have HHL : Hid (∀ y ∈ F.hashes, y.length = 16) := Lib.hid (by
    intro y hy
    obtain ⟨j, hj⟩ := List.mem_iff_getElem?.1 hy
    obtain ⟨_, hR, _⟩ := HE10.out j y hj
    exact hR.1)
  have HIM : Hid (∀ y ∈ F.imports, y.ok) := Lib.hid (by
    intro y hy
    obtain ⟨j, hj⟩ := List.mem_iff_getElem?.1 hy
    obtain ⟨_, hR, _⟩ := HE0.out j y hj
    exact hR.1)
  have L0 := hS.nImps; have L1 := hS.nPkgs; have L2 := hS.nFiles; have L7 := hS.nRefs; have L8 := hS.nFlags; have L11 := hS.nNames
  have L9 : F.hashes64.length ≤ 60 := by have h1 := hS.h64; have h2 := hS.nDefs; simp only [List.length_append] at h2; omega
  have L10 : F.hashes.length ≤ 60 := by have h1 := hS.h128; have h2 := hS.nDefs; simp only [List.length_append] at h2; omega
  have K0 := ((h.alloc (.cells cs.toArray 33)).alloc (.cells #[Value.int .u32 0, .int .u32 0, .int .u32 0, .int .u32 0, .int .u32 0, .int .u32 0, .int .u32 0, .int .u32 0, .int .u32 0, .int .u32 0, .int .u32 0, .int .u32 0, .int .u32 0, .int .u32 0, .int .u32 0, .int .u32 0, .int .u32 0, .int .u32 0, .int .u32 0] 62)).alloc (.cells #[Value.int .u32 0, .int .u32 0, .int .u32 0, .int .u32 0, .int .u32 0, .int .u32 0, .int .u32 0, .int .u32 0, .int .u32 0, .int .u32 0, .int .u32 0, .int .u32 0, .int .u32 0, .int .u32 0, .int .u32 0, .int .u32 0, .int .u32 0, .int .u32 0, .int .u32 0] 62)
  have F0 := (((Fw.refl i.B i.S w).alloc h.size (.cells cs.toArray 33)).alloc (h.alloc (.cells cs.toArray 33)).size (.cells #[Value.int .u32 0, .int .u32 0, .int .u32 0, .int .u32 0, .int .u32 0, .int .u32 0, .int .u32 0, .int .u32 0, .int .u32 0, .int .u32 0, .int .u32 0, .int .u32 0, .int .u32 0, .int .u32 0, .int .u32 0, .int .u32 0, .int .u32 0, .int .u32 0, .int .u32 0] 62)).alloc ((h.alloc (.cells cs.toArray 33)).alloc (.cells #[Value.int .u32 0, .int .u32 0, .int .u32 0, .int .u32 0, .int .u32 0, .int .u32 0, .int .u32 0, .int .u32 0, .int .u32 0, .int .u32 0, .int .u32 0, .int .u32 0, .int .u32 0, .int .u32 0, .int .u32 0, .int .u32 0, .int .u32 0, .int .u32 0, .int .u32 0] 62)).size (.cells #[Value.int .u32 0, .int .u32 0, .int .u32 0, .int .u32 0, .int .u32 0, .int .u32 0, .int .u32 0, .int .u32 0, .int .u32 0, .int .u32 0, .int .u32 0, .int .u32 0, .int .u32 0, .int .u32 0, .int .u32 0, .int .u32 0, .int .u32 0, .int .u32 0, .int .u32 0] 62)
  obtain ⟨B0, BR, BO⟩ := three_new w 33 62 62 cs.toArray #[Value.int .u32 0, .int .u32 0, .int .u32 0, .int .u32 0, .int .u32 0, .int .u32 0, .int .u32 0, .int .u32 0, .int .u32 0, .int .u32 0, .int .u32 0, .int .u32 0, .int .u32 0, .int .u32 0, .int .u32 0, .int .u32 0, .int .u32 0, .int .u32 0, .int .u32 0] #[Value.int .u32 0, .int .u32 0, .int .u32 0, .int .u32 0, .int .u32 0, .int .u32 0, .int .u32 0, .int .u32 0, .int .u32 0, .int .u32 0, .int .u32 0, .int .u32 0, .int .u32 0, .int .u32 0, .int .u32 0, .int .u32 0, .int .u32 0, .int .u32 0, .int .u32 0]
  obtain ⟨ob, hob⟩ : ∃ ob, ob = w.heap.size + 1 + 1 := ⟨_, rfl⟩
  obtain ⟨rb, hrb⟩ : ∃ rb, rb = w.heap.size + 1 := ⟨_, rfl⟩
  obtain ⟨gf, hgf⟩ : ∃ gf, gf = w.heap.size := ⟨_, rfl⟩
  have hwS := h.size
  have hwo := h.outS (Nat.le_refl _)
  have hwr := h.outS (Nat.le_add_right w.heap.size 1)
  have hwb := h.outS (g := w.heap.size + 1 + 1) (by omega)
  clear h0 hS h hc hK E0 E1 E2 E3 E4 E5 E6 E7 E8 E9 E10 E11 hA0 hA1 hA2 hA3 hA4 hA5 hA6 hA7 hA8 hA9 hA10 hA11 hM hn hlb g0 g1 g2 g3 g7 g8 g9 g10 g11 g14 g15 g16 g17
  go_enter Tryz.func18, Tryz.ntmps18
  go_wp2_with ((with_reducible refine selS 62 ?_); refine Hid.out ?_)
  refine Lib.hid ?_
  generalize ((w.alloc (.cells cs.toArray 33)).alloc (.cells #[Value.int .u32 0, .int .u32 0, .int .u32 0, .int .u32 0, .int .u32 0, .int .u32 0, .int .u32 0, .int .u32 0, .int .u32 0, .int .u32 0, .int .u32 0, .int .u32 0, .int .u32 0, .int .u32 0, .int .u32 0, .int .u32 0, .int .u32 0, .int .u32 0, .int .u32 0] 62)).alloc (.cells #[Value.int .u32 0, .int .u32 0, .int .u32 0, .int .u32 0, .int .u32 0, .int .u32 0, .int .u32 0, .int .u32 0, .int .u32 0, .int .u32 0, .int .u32 0, .int .u32 0, .int .u32 0, .int .u32 0, .int .u32 0, .int .u32 0, .int .u32 0, .int .u32 0, .int .u32 0] 62) = wb at K0 F0 B0 BR BO ⊢
  rw [← hob, ← hrb, ← hgf]
  rw [← hgf] at B0 BR BO hwo
  rw [show gf + 2 = ob by omega] at BO
  rw [show gf + 1 = rb by omega] at BR
  have hgo : gf ≠ ob := by omega
  have hro : rb ≠ ob := by omega
  have hgS : gf ∉ i.S := hwo
  have hrS : rb ∉ i.S := by rw [hrb]; exact hwr
  have hob1 : w.heap.size ≤ ob := by omega
  have hrb1 : w.heap.size ≤ rb := by omega
  have hoS : ob ∉ i.S := by rw [hob]; exact hwb
  clear hob hrb hgf hwo hwr hwb
  have HK0 := Lib.hid K0; have HF0 := Lib.hid F0; have HB0 := Lib.hid B0; have HBR := Lib.hid BR; have HBO := Lib.hid BO
  clear K0 F0 B0 BR BO
  go_wp2_with ((with_reducible refine selS 62 ?_); go_must (refine wpList_store_all _ rfl 62 _ _ rfl _ 62 _ (zero19.map (Value.int .u32 ·)) rfl rfl (Tryz.sizeOf62 _) HBO.out rfl (by decide) ?_; intro wa hba hfa; refine Hid.out ?_))
  refine Lib.hid ?_
  have FA : Fw i.B (ob :: i.S) w wa := (HF0.out.mono (fun x hx => .inl (List.mem_cons_of_mem _ hx))).thenNew hfa hwS hob1
  have W1 : Wr i wa l M := HK0.out.keep hfa (by simp only [List.mem_singleton]; rintro y rfl; exact .inr ⟨62, _, HBO.out, by decide, by decide, by decide⟩)
  have P1 : Hid (BI i M ob wa (offs l.length bs 0) (l ++ (bs.take 0).flatten) wa) := Lib.hid ⟨by simpa using W1, Fw.refl _ _ _, by rw [offs_zero]; exact hba, by omega, W1.size, hba.lt⟩
  have HA : Hid (Fw i.B (ob :: i.S) w wa) := Lib.hid FA
  have HG : Hid (∀ x, Fw i.B (ob :: i.S) wa x → Blk x gf 33 cs.toArray) := Lib.hid (fun x hx => hx.blk (by simp only [List.mem_cons, not_or]; exact ⟨hgo, hgS⟩) (by decide) (hfa.blk (by simpa using hgo) HB0.out))
  have HR : Hid (∀ x, Fw i.B (ob :: i.S) wa x → Blk x rb 62 (zero19.map (Value.int .u32 ·)).toArray) := Lib.hid (fun x hx => hx.blk (by simp only [List.mem_cons, not_or]; exact ⟨hro, hrS⟩) (by decide) (hfa.blk (by simpa using hro) HBR.out))
  clear hfa hba FA W1 HK0 HF0 HB0 HBR HBO hgo hro hgS hrS
  go_wp2_with fail
  obtain ⟨n0, hn0⟩ : ∃ n : Int, ((l ++ (bs.take 0).flatten).length : Int) = n := ⟨_, rfl⟩
  refine (offset_q P1.out n0 hn0).mono ?_
  rintro e wx ⟨rfl, hwx⟩
  rw [hwx]
  clear hwx wx
  have cc := P1.out.cell 0 0 (by rw [offs_get _ _ _ _ (by decide)]; rfl)
  have cf := P1.out.frozen 0
  go_wp2_with ((with_reducible refine selD 33 ?_); refine Hid.out ?_)
  refine Lib.hid ?_
  have P2 := Lib.hid (BI.stored P1.out hn0)
  clear P1 cc cf hn0
  generalize wa.setCell ⟨ob, 0, none⟩ (.int .u32 n0) = w3 at P2 ⊢
  have ce : w3.cell? ⟨gf, 9, none⟩ = some (.slice A0 F.imports.length c0) := by rw [(HG.out w3 P2.out.2.1).cell]; simpa using HC.out.e0
  go_upto_block 0 with fail
  go_cut [] (fun x => BI i M ob wa (offs l.length bs 1) (l ++ (bs.take 1).flatten) x)
  case first =>
    go_wp2_with fail
    clear ce
    go_loopw [35] (fun c x => ∃ k : Nat, k ≤ F.imports.length ∧ c = .int .i64 k ∧ BI i M ob wa (offs l.length bs 1) (l ++ (bs.take 0).flatten ++ (F.imports.take k).flatMap (Imp.enc M)) x) (fun c _ => F.imports.length - (intOf c).toNat)
    case atStart => exact ⟨0, Nat.zero_le _, rfl, by simpa using P2.out⟩
    case round =>
      obtain ⟨k, hk, rfl, hw⟩ := hrel
      have P3 := Lib.hid hw
      clear hw P2
      by_cases hlt : k < F.imports.length
      · obtain ⟨x, hx⟩ : ∃ x, F.imports[k]? = some x := ⟨_, List.getElem?_eq_getElem hlt⟩
        obtain ⟨cs1, hR, hlen, hc⟩ := HE0.out k x hx
        have hc' := Sl.at_ hc hlen (by decide) (Fw.old HI.out (HA.out.trans P3.out.2.1).below0 hB)
        obtain rfl := HA0.out (by intro e; rw [e] at hlt; simp at hlt)
        have hmem : x ∈ F.imports := List.mem_of_getElem? hx
        have hlenP : (l ++ (bs.take 0).flatten ++ (F.imports.take k).flatMap (Imp.enc M)).length ≤ 1500000 := by
          have h1 := HN.out; have h2 := take_flatten_le bs 0
          have h3 := flat_le (Imp.enc M) 16 (F.imports.take k) (fun y hy => by rw [imp_len M y (HIM.out y (List.mem_of_mem_take hy))]; exact Nat.le_refl _)
          rw [List.length_take] at h3
          simp only [List.length_append]
          omega
        have HX := Lib.hid hx; have HLP := Lib.hid hlenP
        clear hx hlenP
        have one := imp_one hR
        have HV := Lib.hid hc'; have HL := Lib.hid hlen; have H1 := Lib.hid one; have HRx := Lib.hid hR
        clear hc hc' hlen one hR
        go_wp2_with (first | ((with_reducible refine selD 38 ?_); go_must (refine wpList_load_cs _ rfl 59 _ rfl b0 (o0 + k * 9) cs1 rfl (Tryz.isAgg59 _) (by rw [HL.out]; exact Tryz.sizeOf59 _) HV.out ?_)) | ((with_reducible refine selS 59 ?_); go_must (refine wpList_store_all _ rfl 59 _ _ rfl _ 59 _ cs1 rfl rfl (by rw [HL.out]; exact Tryz.sizeOf59 _) (Blk.new _ 59 _) (by rw [HL.out]; rfl) H1.out ?_; intro w5 hb5 hf5; refine Hid.out ?_)))
        refine Lib.hid ?_
        have P5 := Lib.hid (P3.out.newSet hf5 (by decide) (by decide) (by decide))
        obtain ⟨hxo, hx0, hx1⟩ := imp_parts HRx.out
        have c5 : w5.cell? ⟨wr.heap.size, 0, none⟩ = some (.string x.pkg) := by rw [hb5.cell]; simpa using hx0
        have C5 : Hid (Cs w5 wr.heap.size 1 (Lib.byteCells x.fp)) := Lib.hid (hb5.part (p := [.string x.pkg]) (s := Lib.byteCells x.fp) (q := []) (by simpa using hx1))
        have hfp : x.fp.length = 8 := hxo
        have HFP := Lib.hid hfp
        have HXo := Lib.hid hxo
        clear hb5 hf5 hx0 hx1 hfp hxo
        go_wp2_with (first | ((with_reducible refine selD 42 ?_); go_must (refine wpList_load_cs _ rfl 22 _ rfl wr.heap.size 1 (Lib.byteCells x.fp) rfl (Tryz.isAgg22 _) (by rw [bc_len, HFP.out]; exact Tryz.sizeOf22 _) C5.out ?_)) | ((with_reducible refine selD 43 ?_); go_must (refine wpList_build _ rfl 121 _ _ rfl _ _ _ rfl rfl (build121 x.pkg x.fp HFP.out _) ?_)) | ((with_reducible refine selS 121 ?_); go_must (refine wpList_store_all _ rfl 121 _ _ rfl _ 121 _ x.cells rfl rfl (by rw [show x.cells.length = 9 from by simp [Imp.cells, bc_len, HFP.out]]; exact Tryz.sizeOf121 _) (Blk.new _ 121 _) (by rw [show x.cells.length = 9 from by simp [Imp.cells, bc_len, HFP.out]]; rfl) (imp_one ⟨HXo.out, rfl⟩) ?_; intro w6 hb6 hf6; refine Hid.out ?_)))
        refine Lib.hid ?_
        have P6 := Lib.hid (P5.out.newSet hf6 (by decide) (by decide) (by decide))
        have B6 := Lib.hid hb6
        clear hb6 hf6 c5
        go_wp2_with fail
        refine (imp_BI P6.out x _ HXo.out (by have := HS.out.imps x hmem; omega) (HM.out x.pkg (by simp only [strs, List.mem_append, List.mem_cons, List.mem_map]; exact Or.inl (Or.inl (Or.inl (Or.inl (Or.inl (Or.inr ⟨x, hmem, rfl⟩))))))) (by have := HLP.out; omega) B6.out).mono ?_
        rintro e w7 ⟨rfl, h7⟩
        have P9 := Lib.hid h7
        clear h7
        go_wp2
        go_roundw
        case rel => exact ⟨k + 1, by omega, by go_num, by
          have h9 := P9.out
          rw [flatMap_succ _ _ _ _ HX.out, ← List.append_assoc]
          simpa using h9⟩
        case measure => simp [intOf]; omega
      · have e : k = F.imports.length := by omega
        subst e
        go_wp2
        have hX := P3.out
        rw [List.take_length, List.append_assoc, ← flat_succ bs 0 _ Q0.out] at hX
        go_meet
        case rel => exact hX
  case rest =>
  clear P2 ce
  have P1 := Lib.hid hcut
  clear hcut
  go_wp2_with fail
  obtain ⟨n1, hn1⟩ : ∃ n : Int, ((l ++ (bs.take 1).flatten).length : Int) = n := ⟨_, rfl⟩
  refine (offset_q P1.out n1 hn1).mono ?_
  rintro e wx ⟨rfl, hwx⟩
  rw [hwx]
  clear hwx wx
  have cc := P1.out.cell 1 0 (by rw [offs_get _ _ _ _ (by decide)]; rfl)
  have cf := P1.out.frozen 1
  go_wp2_with ((with_reducible refine selD 51 ?_); refine Hid.out ?_)
  refine Lib.hid ?_
  have P2 := Lib.hid (BI.stored P1.out hn1)
  clear P1 cc cf hn1
  generalize wc.setCell ⟨ob, 1, none⟩ (.int .u32 n1) = w3 at P2 ⊢
  have ce : w3.cell? ⟨gf, 10, none⟩ = some (.slice A1 F.packages.length c1) := by rw [(HG.out w3 P2.out.2.1).cell]; simpa using HC.out.e1
  go_upto_block 2 with fail
  go_cut [] (fun x => BI i M ob wa (offs l.length bs 2) (l ++ (bs.take 2).flatten) x)
  case first =>
    go_wp2_with fail
    clear ce
    go_loopw [53] (fun c x => ∃ k : Nat, k ≤ F.packages.length ∧ c = .int .i64 k ∧ BI i M ob wa (offs l.length bs 2) (l ++ (bs.take 1).flatten ++ (F.packages.take k).flatMap (sref M)) x) (fun c _ => F.packages.length - (intOf c).toNat)
    case atStart => exact ⟨0, Nat.zero_le _, rfl, by simpa using P2.out⟩
    case round =>
      obtain ⟨k, hk, rfl, hw⟩ := hrel
      have P3 := Lib.hid hw
      clear hw P2
      by_cases hlt : k < F.packages.length
      · obtain ⟨x, hx⟩ : ∃ x, F.packages[k]? = some x := ⟨_, List.getElem?_eq_getElem hlt⟩
        obtain ⟨cs1, hR, hlen, hc⟩ := HE1.out k x hx
        have hc' := Sl.at_ hc hlen (by decide) (Fw.old HI.out (HA.out.trans P3.out.2.1).below0 hB)
        obtain rfl := HA1.out (by intro e; rw [e] at hlt; simp at hlt)
        have hmem : x ∈ F.packages := List.mem_of_getElem? hx
        have hlenP : (l ++ (bs.take 1).flatten ++ (F.packages.take k).flatMap (sref M)).length ≤ 1500000 := by
          have h1 := HN.out; have h2 := take_flatten_le bs 1
          have h3 := flat_le (sref M) 8 (F.packages.take k) (fun y hy => by rw [sref_len]; exact Nat.le_refl _)
          rw [List.length_take] at h3
          simp only [List.length_append]
          omega
        have HX := Lib.hid hx; have HLP := Lib.hid hlenP
        clear hx hlenP
        have c0 : wr.cell? ⟨b1, o1 + k, none⟩ = some (.string x) := by
          have := hc' 0 (.string x) (by rw [hR]; rfl)
          simpa using this
        clear hc hc' hlen hR
        go_wp2_with fail
        refine (sref_BI P3.out x (by have := HS.out.pkgs x hmem; omega) (HM.out x (by simp only [strs, List.mem_append, List.mem_cons, List.mem_map]; exact Or.inl (Or.inl (Or.inl (Or.inl (Or.inr hmem)))))) (by have := HLP.out; omega)).mono ?_
        rintro e w4 ⟨rfl, h4⟩
        have P9 := Lib.hid h4
        clear h4 c0
        go_wp2
        go_roundw
        case rel => exact ⟨k + 1, by omega, by go_num, by
          have h9 := P9.out
          rw [flatMap_succ _ _ _ _ HX.out, ← List.append_assoc]
          simpa using h9⟩
        case measure => simp [intOf]; omega
      · have e : k = F.packages.length := by omega
        subst e
        go_wp2
        have hX := P3.out
        rw [List.take_length, List.append_assoc, ← flat_succ bs 1 _ Q1.out] at hX
        go_meet
        case rel => exact hX
  case rest =>
  clear P2 ce
  have P1 := Lib.hid hcut
  clear hcut
  go_wp2_with fail
  obtain ⟨n2, hn2⟩ : ∃ n : Int, ((l ++ (bs.take 2).flatten).length : Int) = n := ⟨_, rfl⟩
  refine (offset_q P1.out n2 hn2).mono ?_
  rintro e wx ⟨rfl, hwx⟩
  rw [hwx]
  clear hwx wx
  have cc := P1.out.cell 2 0 (by rw [offs_get _ _ _ _ (by decide)]; rfl)
  have cf := P1.out.frozen 2
  go_wp2_with ((with_reducible refine selD 65 ?_); refine Hid.out ?_)
  refine Lib.hid ?_
  have P2 := Lib.hid (BI.stored P1.out hn2)
  clear P1 cc cf hn2
  generalize wc.setCell ⟨ob, 2, none⟩ (.int .u32 n2) = w3 at P2 ⊢
  have ce : w3.cell? ⟨gf, 11, none⟩ = some (.slice A2 F.files.length c2) := by rw [(HG.out w3 P2.out.2.1).cell]; simpa using HC.out.e2
  go_upto_block 4 with fail
  go_cut [] (fun x => BI i M ob wa (offs l.length bs 3) (l ++ (bs.take 3).flatten) x)
  case first =>
    go_wp2_with fail
    clear ce
    go_loopw [67] (fun c x => ∃ k : Nat, k ≤ F.files.length ∧ c = .int .i64 k ∧ BI i M ob wa (offs l.length bs 3) (l ++ (bs.take 2).flatten ++ (F.files.take k).flatMap (sref M)) x) (fun c _ => F.files.length - (intOf c).toNat)
    case atStart => exact ⟨0, Nat.zero_le _, rfl, by simpa using P2.out⟩
    case round =>
      obtain ⟨k, hk, rfl, hw⟩ := hrel
      have P3 := Lib.hid hw
      clear hw P2
      by_cases hlt : k < F.files.length
      · obtain ⟨x, hx⟩ : ∃ x, F.files[k]? = some x := ⟨_, List.getElem?_eq_getElem hlt⟩
        obtain ⟨cs1, hR, hlen, hc⟩ := HE2.out k x hx
        have hc' := Sl.at_ hc hlen (by decide) (Fw.old HI.out (HA.out.trans P3.out.2.1).below0 hB)
        obtain rfl := HA2.out (by intro e; rw [e] at hlt; simp at hlt)
        have hmem : x ∈ F.files := List.mem_of_getElem? hx
        have hlenP : (l ++ (bs.take 2).flatten ++ (F.files.take k).flatMap (sref M)).length ≤ 1500000 := by
          have h1 := HN.out; have h2 := take_flatten_le bs 2
          have h3 := flat_le (sref M) 8 (F.files.take k) (fun y hy => by rw [sref_len]; exact Nat.le_refl _)
          rw [List.length_take] at h3
          simp only [List.length_append]
          omega
        have HX := Lib.hid hx; have HLP := Lib.hid hlenP
        clear hx hlenP
        have c0 : wr.cell? ⟨b2, o2 + k, none⟩ = some (.string x) := by
          have := hc' 0 (.string x) (by rw [hR]; rfl)
          simpa using this
        clear hc hc' hlen hR
        go_wp2_with fail
        refine (sref_BI P3.out x (by have := HS.out.files x hmem; omega) (HM.out x (by simp only [strs, List.mem_append, List.mem_cons, List.mem_map]; exact Or.inl (Or.inl (Or.inl (Or.inr hmem))))) (by have := HLP.out; omega)).mono ?_
        rintro e w4 ⟨rfl, h4⟩
        have P9 := Lib.hid h4
        clear h4 c0
        go_wp2
        go_roundw
        case rel => exact ⟨k + 1, by omega, by go_num, by
          have h9 := P9.out
          rw [flatMap_succ _ _ _ _ HX.out, ← List.append_assoc]
          simpa using h9⟩
        case measure => simp [intOf]; omega
      · have e : k = F.files.length := by omega
        subst e
        go_wp2
        have hX := P3.out
        rw [List.take_length, List.append_assoc, ← flat_succ bs 2 _ Q2.out] at hX
        go_meet
        case rel => exact hX
  case rest =>
  clear P2 ce
  have P1 := Lib.hid hcut
  clear hcut
  have G1 := (HG.out wc P1.out.2.1).all
  simp only [List.toList_toArray] at G1
  go_wp2_with ((with_reducible refine selD 75 ?_); go_must (refine wpList_load_cs _ rfl 33 _ rfl gf 0 cs rfl (Tryz.isAgg33 _) (by rw [HC.out.len]; exact Tryz.sizeOf33 _) G1 ?_))
  clear G1
  refine (lists_any wc cs A3 A4 A5 A6 F.own.length F.short.length F.hashed.length F.other.length c3 c4 c5 c6 HC.out.e3 HC.out.e4 HC.out.e5 HC.out.e6).mono ?_
  rintro e w4 ⟨rfl, hf⟩
  have P2 := Lib.hid (P1.out.fr0 hf)
  clear P1 hf
  go_upto_block 6 with fail
  go_cut [] (fun x => BI i M ob wa (offs l.length bs 7) (l ++ (bs.take 7).flatten) x)
  case first =>
    go_wp2_with fail
    go_loopg [77] 4 (fun g c x => ∃ k : Nat, k ≤ 4 ∧ g = 4 - k ∧ c = .int .i64 k ∧ BI i M ob wa (offs l.length bs (3 + k)) (l ++ (bs.take (3 + k)).flatten) x)
    case atStart => exact ⟨0, by omega, rfl, rfl, by simpa using P2.out⟩
    case round =>
      obtain ⟨k, hk, rfl, rfl, hw⟩ := hrel
      have P3 := Lib.hid hw
      clear hw P2
      by_cases hlt : k < 4
      · obtain ⟨ls, b, o, A, c, lk⟩ := HK.out k hlt
        have hix := lk.ix
        have n60 : ls.length ≤ 60 := by have h1 := LL_le F k ls lk.get; have h2 : (defs F).length ≤ 60 := HS.out.nDefs; omega
        have HBk := Lib.hid (Q3.out k hlt ls lk.get)
        have KL := Lib.hid lk
        clear lk
        obtain ⟨n, hn⟩ : ∃ n : Int, ((l ++ (bs.take (3 + k)).flatten).length : Int) = n := ⟨_, rfl⟩
        have cc := P3.out.cell (3 + k) 0 (by rw [offs_get _ _ _ _ (by omega)]; simp)
        have cf := P3.out.frozen (3 + k)
        go_wp2_with fail
        refine (offset_q P3.out n hn).mono ?_
        rintro e wx ⟨rfl, hwx⟩
        rw [hwx]
        clear hwx wx
        have hk4 : (3 : Int) + k < 19 := by omega
        have hk5 : (0 : Int) ≤ 3 + k := by omega
        have hk6 : ((3 : Int) + k).toNat = 3 + k := by omega
        go_wp2_with fail
        have P4 := Lib.hid (BI.stored P3.out hn)
        clear P3 cc cf hn hk4 hk5 hk6 hix
        generalize wr.setCell ⟨ob, 3 + k, none⟩ (.int .u32 n) = w3 at P4 ⊢
        try rw [show decide ((k : Int) < 4) = true from by simp; omega]
        go_loopw [88] (fun c x => ∃ j : Nat, j ≤ ls.length ∧ c = .int .i64 j ∧ BI i M ob wa (offs l.length bs (3 + k + 1)) (l ++ (bs.take (3 + k)).flatten ++ (ls.take j).flatMap (fun d => d.rfd.enc M)) x) (fun c _ => ls.length - (intOf c).toNat)
        case atStart => exact ⟨0, Nat.zero_le _, rfl, by simpa using P4.out⟩
        case round =>
          obtain ⟨j, hkj, rfl, hw⟩ := hrel
          have P3 := Lib.hid hw
          clear hw P4
          by_cases hlj : j < ls.length
          · obtain ⟨x, hx⟩ : ∃ x, ls[j]? = some x := ⟨_, List.getElem?_eq_getElem hlj⟩
            obtain ⟨cs1, hR, hlen, hc⟩ := KL.out.el j x hx
            have hc' := Sl.at_ hc hlen (by decide) (Fw.old HI.out (HA.out.trans P3.out.2.1) hB)
            obtain rfl := KL.out.ad (by intro e; rw [e] at hlj; simp at hlj)
            have hmem := LL_mem F k ls KL.out.get x (List.mem_of_getElem? hx)
            have hlenP : (l ++ (bs.take (3 + k)).flatten ++ (ls.take j).flatMap (fun d => d.rfd.enc M)).length ≤ 1500000 := by
              have h1 := HN.out; have h2 := take_flatten_le bs (3 + k)
              have h3 := flat_le (fun d : Def => d.rfd.enc M) 21 (ls.take j) (fun y hy => by rw [rfd_len]; exact Nat.le_refl _)
              rw [List.length_take] at h3
              simp only [List.length_append]
              omega
            have HX := Lib.hid hx; have HLP := Lib.hid hlenP
            clear hx hlenP
            have one := def_one hR
            have HV := Lib.hid hc'; have HL := Lib.hid hlen; have H1 := Lib.hid one; have HRx := Lib.hid hR
            clear hc hc' hlen one hR
            go_wp2_with (first | ((with_reducible refine selD 91 ?_); go_must (refine wpList_load_cs _ rfl 51 _ rfl b (o + j * 10) cs1 rfl (Tryz.isAgg51 _) (by rw [HL.out]; exact Tryz.sizeOf51 _) HV.out ?_)) | ((with_reducible refine selS 51 ?_); go_must (refine wpList_store_all _ rfl 51 _ _ rfl _ 51 _ cs1 rfl rfl (by rw [HL.out]; exact Tryz.sizeOf51 _) (Blk.new _ 51 _) (by rw [HL.out]; rfl) H1.out ?_; intro w5 hb5 hf5; refine Hid.out ?_)))
            refine Lib.hid ?_
            have P5 := Lib.hid (P3.out.newSet hf5 (by decide) (by decide) (by decide))
            obtain ⟨hxo, hx0, t, hx1⟩ := def_sy2 HRx.out
            have c5 : w5.cell? ⟨wr.heap.size, 0, none⟩ = some (.string x.name) := by rw [hb5.cell]; simpa using hx0
            have C5 : Hid (Cs w5 wr.heap.size 1 x.sy.cells) := Lib.hid (hb5.part (p := [.string x.name]) (s := x.sy.cells) (q := t) (by simpa using hx1))
            have HXo := Lib.hid hxo
            clear hb5 hf5 hx0 hx1 hxo
            go_wp2_with ((with_reducible refine selD 96 ?_); go_must (refine wpList_load_cs _ rfl 47 _ rfl wr.heap.size 1 x.sy.cells rfl (Tryz.isAgg47 _) (Tryz.sizeOf47 _) C5.out ?_))
            refine (sym_BI P5.out x.rfd HXo.out (by have h1 := (HS.out.defs x hmem).1; show x.name.size ≤ 1000000; omega) (HM.out x.name (by simp only [strs, List.mem_append, List.mem_cons, List.mem_map]; exact Or.inl (Or.inl (Or.inr ⟨x, hmem, rfl⟩)))) (by have := HLP.out; omega)).mono ?_
            rintro e w7 ⟨rfl, h7⟩
            have P9 := Lib.hid h7
            clear h7 c5
            go_wp2
            go_roundw
            case rel => exact ⟨j + 1, by omega, by go_num, by
              have h9 := P9.out
              rw [flatMap_succ _ _ _ _ HX.out, ← List.append_assoc]
              exact h9⟩
            case measure => simp [intOf]; omega
          · have e : j = ls.length := by omega
            subst e
            go_wp2
            have hX := P3.out
            rw [List.take_length, List.append_assoc, ← flat_succ bs (3 + k) _ HBk.out] at hX
            have HXX := Lib.hid hX
            clear hX
            go_roundg (4 - (k + 1))
            case rel => exact ⟨k + 1, by omega, rfl, by go_num, HXX.out⟩
            case measure => omega
      · have e : k = 4 := by omega
        subst e
        go_wp2
        go_meet
        case rel => exact P3.out
  case rest =>
  clear P2
  have P1 := Lib.hid hcut
  clear hcut
  go_wp2_with fail
  obtain ⟨n7, hn7⟩ : ∃ n : Int, ((l ++ (bs.take 7).flatten).length : Int) = n := ⟨_, rfl⟩
  refine (offset_q P1.out n7 hn7).mono ?_
  rintro e wx ⟨rfl, hwx⟩
  rw [hwx]
  clear hwx wx
  have cc := P1.out.cell 7 0 (by rw [offs_get _ _ _ _ (by decide)]; rfl)
  have cf := P1.out.frozen 7
  go_wp2_with ((with_reducible refine selD 104 ?_); refine Hid.out ?_)
  refine Lib.hid ?_
  have P2 := Lib.hid (BI.stored P1.out hn7)
  clear P1 cc cf hn7
  generalize wc.setCell ⟨ob, 7, none⟩ (.int .u32 n7) = w3 at P2 ⊢
  have ce : w3.cell? ⟨gf, 16, none⟩ = some (.slice A7 F.refs.length c7) := by rw [(HG.out w3 P2.out.2.1).cell]; simpa using HC.out.e7
  go_upto_block 10 with fail
  go_cut [] (fun x => BI i M ob wa (offs l.length bs 8) (l ++ (bs.take 8).flatten) x)
  case first =>
    go_wp2_with fail
    clear ce
    go_loopw [106] (fun c x => ∃ k : Nat, k ≤ F.refs.length ∧ c = .int .i64 k ∧ BI i M ob wa (offs l.length bs 8) (l ++ (bs.take 7).flatten ++ (F.refs.take k).flatMap (Rfd.enc M)) x) (fun c _ => F.refs.length - (intOf c).toNat)
    case atStart => exact ⟨0, Nat.zero_le _, rfl, by simpa using P2.out⟩
    case round =>
      obtain ⟨k, hk, rfl, hw⟩ := hrel
      have P3 := Lib.hid hw
      clear hw P2
      by_cases hlt : k < F.refs.length
      · obtain ⟨x, hx⟩ : ∃ x, F.refs[k]? = some x := ⟨_, List.getElem?_eq_getElem hlt⟩
        obtain ⟨cs1, hR, hlen, hc⟩ := HE7.out k x hx
        have hc' := Sl.at_ hc hlen (by decide) (Fw.old HI.out (HA.out.trans P3.out.2.1).below0 hB)
        obtain rfl := HA7.out (by intro e; rw [e] at hlt; simp at hlt)
        have hmem : x ∈ F.refs := List.mem_of_getElem? hx
        have hlenP : (l ++ (bs.take 7).flatten ++ (F.refs.take k).flatMap (Rfd.enc M)).length ≤ 1500000 := by
          have h1 := HN.out; have h2 := take_flatten_le bs 7
          have h3 := flat_le (Rfd.enc M) 21 (F.refs.take k) (fun y hy => by rw [rfd_len]; exact Nat.le_refl _)
          rw [List.length_take] at h3
          simp only [List.length_append]
          omega
        have HX := Lib.hid hx; have HLP := Lib.hid hlenP
        clear hx hlenP
        have one := rfd_one hR
        have HV := Lib.hid hc'; have HL := Lib.hid hlen; have H1 := Lib.hid one; have HRx := Lib.hid hR
        clear hc hc' hlen one hR
        go_wp2_with (first | ((with_reducible refine selD 109 ?_); go_must (refine wpList_load_cs _ rfl 53 _ rfl b7 (o7 + k * 7) cs1 rfl (Tryz.isAgg53 _) (by rw [HL.out]; exact Tryz.sizeOf53 _) HV.out ?_)) | ((with_reducible refine selS 53 ?_); go_must (refine wpList_store_all _ rfl 53 _ _ rfl _ 53 _ cs1 rfl rfl (by rw [HL.out]; exact Tryz.sizeOf53 _) (Blk.new _ 53 _) (by rw [HL.out]; rfl) H1.out ?_; intro w5 hb5 hf5; refine Hid.out ?_)))
        refine Lib.hid ?_
        have P5 := Lib.hid (P3.out.newSet hf5 (by decide) (by decide) (by decide))
        obtain ⟨hx0, hx1⟩ := rfd_sy HRx.out
        have c5 : w5.cell? ⟨wr.heap.size, 0, none⟩ = some (.string x.name) := by rw [hb5.cell]; simpa using hx0
        have C5 : Hid (Cs w5 wr.heap.size 1 x.sy.cells) := Lib.hid (hb5.part (p := [.string x.name]) (s := x.sy.cells) (q := []) (by simpa using hx1))
        clear hb5 hf5 hx0 hx1
        go_wp2_with ((with_reducible refine selD 114 ?_); go_must (refine wpList_load_cs _ rfl 47 _ rfl wr.heap.size 1 x.sy.cells rfl (Tryz.isAgg47 _) (Tryz.sizeOf47 _) C5.out ?_))
        refine (sym_BI P5.out x HRx.out.1 (by have h1 := HS.out.refs x hmem; omega) (HM.out x.name (by simp only [strs, List.mem_append, List.mem_cons, List.mem_map]; exact Or.inl (Or.inr ⟨x, hmem, rfl⟩))) (by have := HLP.out; omega)).mono ?_
        rintro e w7 ⟨rfl, h7⟩
        have P9 := Lib.hid h7
        clear h7 c5
        go_wp2
        go_roundw
        case rel => exact ⟨k + 1, by omega, by go_num, by
          have h9 := P9.out
          rw [flatMap_succ _ _ _ _ HX.out, ← List.append_assoc]
          simpa using h9⟩
        case measure => simp [intOf]; omega
      · have e : k = F.refs.length := by omega
        subst e
        go_wp2
        have hX := P3.out
        rw [List.take_length, List.append_assoc, ← flat_succ bs 7 _ Q7.out] at hX
        go_meet
        case rel => exact hX
  case rest =>
  clear P2 ce
  have P1 := Lib.hid hcut
  clear hcut
  go_wp2_with fail
  obtain ⟨n8, hn8⟩ : ∃ n : Int, ((l ++ (bs.take 8).flatten).length : Int) = n := ⟨_, rfl⟩
  refine (offset_q P1.out n8 hn8).mono ?_
  rintro e wx ⟨rfl, hwx⟩
  rw [hwx]
  clear hwx wx
  have cc := P1.out.cell 8 0 (by rw [offs_get _ _ _ _ (by decide)]; rfl)
  have cf := P1.out.frozen 8
  go_wp2_with ((with_reducible refine selD 121 ?_); refine Hid.out ?_)
  refine Lib.hid ?_
  have P2 := Lib.hid (BI.stored P1.out hn8)
  clear P1 cc cf hn8
  generalize wc.setCell ⟨ob, 8, none⟩ (.int .u32 n8) = w3 at P2 ⊢
  have ce : w3.cell? ⟨gf, 17, none⟩ = some (.slice A8 F.refFlags.length c8) := by rw [(HG.out w3 P2.out.2.1).cell]; simpa using HC.out.e8
  go_upto_block 12 with fail
  go_cut [] (fun x => BI i M ob wa (offs l.length bs 9) (l ++ (bs.take 9).flatten) x)
  case first =>
    go_wp2_with fail
    clear ce
    go_loopw [123] (fun c x => ∃ k : Nat, k ≤ F.refFlags.length ∧ c = .int .i64 k ∧ BI i M ob wa (offs l.length bs 9) (l ++ (bs.take 8).flatten ++ (F.refFlags.take k).flatMap Flg.enc) x) (fun c _ => F.refFlags.length - (intOf c).toNat)
    case atStart => exact ⟨0, Nat.zero_le _, rfl, by simpa using P2.out⟩
    case round =>
      obtain ⟨k, hk, rfl, hw⟩ := hrel
      have P3 := Lib.hid hw
      clear hw P2
      by_cases hlt : k < F.refFlags.length
      · obtain ⟨x, hx⟩ : ∃ x, F.refFlags[k]? = some x := ⟨_, List.getElem?_eq_getElem hlt⟩
        obtain ⟨cs1, hR, hlen, hc⟩ := HE8.out k x hx
        have hc' := Sl.at_ hc hlen (by decide) (Fw.old HI.out (HA.out.trans P3.out.2.1).below0 hB)
        obtain rfl := HA8.out (by intro e; rw [e] at hlt; simp at hlt)
        have hmem : x ∈ F.refFlags := List.mem_of_getElem? hx
        have hlenP : (l ++ (bs.take 8).flatten ++ (F.refFlags.take k).flatMap Flg.enc).length ≤ 1500000 := by
          have h1 := HN.out; have h2 := take_flatten_le bs 8
          have h3 := flat_le Flg.enc 10 (F.refFlags.take k) (fun y hy => by rw [flg_len]; exact Nat.le_refl _)
          rw [List.length_take] at h3
          simp only [List.length_append]
          omega
        have HX := Lib.hid hx; have HLP := Lib.hid hlenP
        clear hx hlenP
        have one := flg_one hR
        have HV := Lib.hid hc'; have HL := Lib.hid hlen; have H1 := Lib.hid one; have HRx := Lib.hid hR
        clear hc hc' hlen one hR
        go_wp2_with (first | ((with_reducible refine selD 126 ?_); go_must (refine wpList_load_cs _ rfl 92 _ rfl b8 (o8 + k * 4) cs1 rfl (Tryz.isAgg92 _) (by rw [HL.out]; exact Tryz.sizeOf92 _) HV.out ?_)) | ((with_reducible refine selS 92 ?_); go_must (refine wpList_store_all _ rfl 92 _ _ rfl _ 92 _ cs1 rfl rfl (by rw [HL.out]; exact Tryz.sizeOf92 _) (Blk.new _ 92 _) (by rw [HL.out]; rfl) H1.out ?_; intro w5 hb5 hf5; refine Hid.out ?_)))
        refine Lib.hid ?_
        have P5 := Lib.hid (P3.out.newSet hf5 (by decide) (by decide) (by decide))
        have C5 := Lib.hid hb5.all
        clear hb5 hf5
        go_wp2_with ((with_reducible refine selD 127 ?_); go_must (refine wpList_load_cs _ rfl 92 _ rfl _ (0) cs1 rfl (Tryz.isAgg92 _) (by rw [HL.out]; exact Tryz.sizeOf92 _) C5.out ?_))
        refine (flg_BI P5.out x cs1 HRx.out).mono ?_
        rintro e w7 ⟨g, rfl, h7, hb7⟩
        have P7 := Lib.hid h7; have B7 := Lib.hid hb7
        clear h7 hb7
        go_wp2_with fail
        refine (flgW_BI P7.out x g B7.out (by have := HLP.out; omega)).mono ?_
        rintro e w8 ⟨rfl, h8⟩
        have P9 := Lib.hid h8
        clear h8
        go_wp2
        go_roundw
        case rel => exact ⟨k + 1, by omega, by go_num, by
          have h9 := P9.out
          rw [flatMap_succ _ _ _ _ HX.out, ← List.append_assoc]
          simpa using h9⟩
        case measure => simp [intOf]; omega
      · have e : k = F.refFlags.length := by omega
        subst e
        go_wp2
        have hX := P3.out
        rw [List.take_length, List.append_assoc, ← flat_succ bs 8 _ Q8.out] at hX
        go_meet
        case rel => exact hX
  case rest =>
  clear P2 ce
  have P1 := Lib.hid hcut
  clear hcut
  go_wp2_with fail
  obtain ⟨n9, hn9⟩ : ∃ n : Int, ((l ++ (bs.take 9).flatten).length : Int) = n := ⟨_, rfl⟩
  refine (offset_q P1.out n9 hn9).mono ?_
  rintro e wx ⟨rfl, hwx⟩
  rw [hwx]
  clear hwx wx
  have cc := P1.out.cell 9 0 (by rw [offs_get _ _ _ _ (by decide)]; rfl)
  have cf := P1.out.frozen 9
  go_wp2_with ((with_reducible refine selD 136 ?_); refine Hid.out ?_)
  refine Lib.hid ?_
  have P2 := Lib.hid (BI.stored P1.out hn9)
  clear P1 cc cf hn9
  generalize wc.setCell ⟨ob, 9, none⟩ (.int .u32 n9) = w3 at P2 ⊢
  have ce : w3.cell? ⟨gf, 18, none⟩ = some (.slice A9 F.hashes64.length c9) := by rw [(HG.out w3 P2.out.2.1).cell]; simpa using HC.out.e9
  go_upto_block 14 with fail
  go_cut [] (fun x => BI i M ob wa (offs l.length bs 10) (l ++ (bs.take 10).flatten) x)
  case first =>
    go_wp2_with fail
    clear ce
    go_loopw [138] (fun c x => ∃ k : Nat, k ≤ F.hashes64.length ∧ c = .int .i64 k ∧ BI i M ob wa (offs l.length bs 10) (l ++ (bs.take 9).flatten ++ (F.hashes64.take k).flatMap le8) x) (fun c _ => F.hashes64.length - (intOf c).toNat)
    case atStart => exact ⟨0, Nat.zero_le _, rfl, by simpa using P2.out⟩
    case round =>
      obtain ⟨k, hk, rfl, hw⟩ := hrel
      have P3 := Lib.hid hw
      clear hw P2
      by_cases hlt : k < F.hashes64.length
      · obtain ⟨x, hx⟩ : ∃ x, F.hashes64[k]? = some x := ⟨_, List.getElem?_eq_getElem hlt⟩
        obtain ⟨cs1, hR, hlen, hc⟩ := HE9.out k x hx
        have hc' := Sl.at_ hc hlen (by decide) (Fw.old HI.out (HA.out.trans P3.out.2.1).below0 hB)
        obtain rfl := HA9.out (by intro e; rw [e] at hlt; simp at hlt)
        have hmem : x ∈ F.hashes64 := List.mem_of_getElem? hx
        have hlenP : (l ++ (bs.take 9).flatten ++ (F.hashes64.take k).flatMap le8).length ≤ 1500000 := by
          have h1 := HN.out; have h2 := take_flatten_le bs 9
          have h3 := flat_le le8 8 (F.hashes64.take k) (fun y hy => by rw [le8_len]; exact Nat.le_refl _)
          rw [List.length_take] at h3
          simp only [List.length_append]
          omega
        have HX := Lib.hid hx; have HLP := Lib.hid hlenP
        clear hx hlenP
        have c0 : wr.cell? ⟨b9, o9 + k, none⟩ = some (.int .u64 x) := by
          have := hc' 0 (.int .u64 x) (by rw [hR.2]; rfl)
          simpa using this
        have HRx := Lib.hid hR.1
        clear hc hc' hlen hR
        go_wp2_with fail
        refine (h64_BI P3.out x HRx.out (by have := HLP.out; omega)).mono ?_
        rintro e w4 ⟨rfl, h4⟩
        have P9 := Lib.hid h4
        clear h4 c0
        go_wp2
        go_roundw
        case rel => exact ⟨k + 1, by omega, by go_num, by
          have h9 := P9.out
          rw [flatMap_succ _ _ _ _ HX.out, ← List.append_assoc]
          simpa using h9⟩
        case measure => simp [intOf]; omega
      · have e : k = F.hashes64.length := by omega
        subst e
        go_wp2
        have hX := P3.out
        rw [List.take_length, List.append_assoc, ← flat_succ bs 9 _ Q9.out] at hX
        go_meet
        case rel => exact hX
  case rest =>
  clear P2 ce
  have P1 := Lib.hid hcut
  clear hcut
  go_wp2_with fail
  obtain ⟨n10, hn10⟩ : ∃ n : Int, ((l ++ (bs.take 10).flatten).length : Int) = n := ⟨_, rfl⟩
  refine (offset_q P1.out n10 hn10).mono ?_
  rintro e wx ⟨rfl, hwx⟩
  rw [hwx]
  clear hwx wx
  have cc := P1.out.cell 10 0 (by rw [offs_get _ _ _ _ (by decide)]; rfl)
  have cf := P1.out.frozen 10
  go_wp2_with ((with_reducible refine selD 150 ?_); refine Hid.out ?_)
  refine Lib.hid ?_
  have P2 := Lib.hid (BI.stored P1.out hn10)
  clear P1 cc cf hn10
  generalize wc.setCell ⟨ob, 10, none⟩ (.int .u32 n10) = w3 at P2 ⊢
  have ce : w3.cell? ⟨gf, 19, none⟩ = some (.slice A10 F.hashes.length c10) := by rw [(HG.out w3 P2.out.2.1).cell]; simpa using HC.out.e10
  go_upto_block 16 with fail
  go_cut [] (fun x => BI i M ob wa (offs l.length bs 11) (l ++ (bs.take 11).flatten) x)
  case first =>
    go_wp2_with fail
    clear ce
    go_loopw [152] (fun c x => ∃ k : Nat, k ≤ F.hashes.length ∧ c = .int .i64 k ∧ BI i M ob wa (offs l.length bs 11) (l ++ (bs.take 10).flatten ++ (F.hashes.take k).flatMap id) x) (fun c _ => F.hashes.length - (intOf c).toNat)
    case atStart => exact ⟨0, Nat.zero_le _, rfl, by simpa using P2.out⟩
    case round =>
      obtain ⟨k, hk, rfl, hw⟩ := hrel
      have P3 := Lib.hid hw
      clear hw P2
      by_cases hlt : k < F.hashes.length
      · obtain ⟨x, hx⟩ : ∃ x, F.hashes[k]? = some x := ⟨_, List.getElem?_eq_getElem hlt⟩
        obtain ⟨cs1, hR, hlen, hc⟩ := HE10.out k x hx
        have hc' := Sl.at_ hc hlen (by decide) (Fw.old HI.out (HA.out.trans P3.out.2.1).below0 hB)
        obtain rfl := HA10.out (by intro e; rw [e] at hlt; simp at hlt)
        have hmem : x ∈ F.hashes := List.mem_of_getElem? hx
        have hlenP : (l ++ (bs.take 10).flatten ++ (F.hashes.take k).flatMap id).length ≤ 1500000 := by
          have h1 := HN.out; have h2 := take_flatten_le bs 10
          have h3 := flat_le id 16 (F.hashes.take k) (fun y hy => by have h5 := HHL.out y (List.mem_of_mem_take hy); simp only [id_eq]; omega)
          rw [List.length_take] at h3
          simp only [List.length_append]
          omega
        have HX := Lib.hid hx; have HLP := Lib.hid hlenP
        clear hx hlenP
        have one : ∀ v ∈ cs1, v.oneCell' = true := by rw [hR.2]; exact bc_one x
        have HV := Lib.hid hc'; have HL := Lib.hid hlen; have H1 := Lib.hid one; have HRx := Lib.hid hR
        clear hc hc' hlen one hR
        go_wp2_with (first | ((with_reducible refine selD 155 ?_); go_must (refine wpList_load_cs _ rfl 97 _ rfl b10 (o10 + k * 16) cs1 rfl (Tryz.isAgg97 _) (by rw [HL.out]; exact Tryz.sizeOf97 _) HV.out ?_)) | ((with_reducible refine selS 97 ?_); go_must (refine wpList_store_all _ rfl 97 _ _ rfl _ 97 _ cs1 rfl rfl (by rw [HL.out]; exact Tryz.sizeOf97 _) (Blk.new _ 97 _) (by rw [HL.out]; rfl) H1.out ?_; intro w5 hb5 hf5; refine Hid.out ?_)))
        refine Lib.hid ?_
        have P5 := Lib.hid (P3.out.newSet hf5 (by decide) (by decide) (by decide))
        have B5 : Hid (Blk w5 wr.heap.size 97 (Lib.byteCells x).toArray) := Lib.hid (by rw [← HRx.out.2]; exact hb5)
        clear hb5 hf5
        go_wp2_with fail
        refine (hash_BI P5.out x _ HRx.out.1 (by have := HLP.out; omega) B5.out).mono ?_
        rintro e w7 ⟨rfl, h7⟩
        have P9 := Lib.hid h7
        clear h7
        go_wp2
        go_roundw
        case rel => exact ⟨k + 1, by omega, by go_num, by
          have h9 := P9.out
          rw [flatMap_succ _ _ _ _ HX.out, ← List.append_assoc]
          simpa using h9⟩
        case measure => simp [intOf]; omega
      · have e : k = F.hashes.length := by omega
        subst e
        go_wp2
        have hX := P3.out
        rw [List.take_length, List.append_assoc, ← flat_succ bs 10 _ Q10.out] at hX
        go_meet
        case rel => exact hX
  case rest =>
  clear P2 ce
  have P1 := Lib.hid hcut
  clear hcut
  have G1 := (HG.out wc P1.out.2.1).all
  simp only [List.toList_toArray] at G1
  go_wp2_with ((with_reducible refine selD 160 ?_); go_must (refine wpList_load_cs _ rfl 33 _ rfl gf 0 cs rfl (Tryz.isAgg33 _) (by rw [HC.out.len]; exact Tryz.sizeOf33 _) G1 ?_))
  clear G1
  refine (indices_any i l M F _ ob bs w0 wa wc hFv.out HS.out (HI.out.trans (HA.out.below.mono hB)) hB Q11.out P1.out HN.out).mono ?_
  rintro e wd ⟨rfl, h5⟩
  have P2 := Lib.hid h5
  clear h5 P1
  have G1 := (HG.out wd P2.out.2.1).all
  simp only [List.toList_toArray] at G1
  go_wp2_with ((with_reducible refine selD 163 ?_); go_must (refine wpList_load_cs _ rfl 33 _ rfl gf 0 cs rfl (Tryz.isAgg33 _) (by rw [HC.out.len]; exact Tryz.sizeOf33 _) G1 ?_))
  clear G1
  refine (contents_any i l M F _ ob bs w0 wa wd hFv.out HS.out (HI.out.trans (HA.out.below.mono hB)) hB Q14.out Q15.out Q16.out P2.out HN.out).mono ?_
  rintro e we ⟨rfl, h5⟩
  have P1 := Lib.hid h5
  clear h5 P2
  go_wp2_with fail
  obtain ⟨n17, hn17⟩ : ∃ n : Int, ((l ++ (bs.take 17).flatten).length : Int) = n := ⟨_, rfl⟩
  refine (offset_q P1.out n17 hn17).mono ?_
  rintro e wx ⟨rfl, hwx⟩
  rw [hwx]
  clear hwx wx
  have cc := P1.out.cell 17 0 (by rw [offs_get _ _ _ _ (by decide)]; rfl)
  have cf := P1.out.frozen 17
  go_wp2_with ((with_reducible refine selD 170 ?_); refine Hid.out ?_)
  refine Lib.hid ?_
  have P2 := Lib.hid (BI.stored P1.out hn17)
  clear P1 cc cf hn17
  generalize we.setCell ⟨ob, 17, none⟩ (.int .u32 n17) = w3 at P2 ⊢
  have ce : w3.cell? ⟨gf, 20, none⟩ = some (.slice A11 F.refNames.length c11) := by rw [(HG.out w3 P2.out.2.1).cell]; simpa using HC.out.e11
  go_upto_block 18 with fail
  go_cut [] (fun x => BI i M ob wa (offs l.length bs 18) (l ++ (bs.take 18).flatten) x)
  case first =>
    go_wp2_with fail
    clear ce
    go_loopw [172] (fun c x => ∃ k : Nat, k ≤ F.refNames.length ∧ c = .int .i64 k ∧ BI i M ob wa (offs l.length bs 18) (l ++ (bs.take 17).flatten ++ (F.refNames.take k).flatMap (Nam.enc M)) x) (fun c _ => F.refNames.length - (intOf c).toNat)
    case atStart => exact ⟨0, Nat.zero_le _, rfl, by simpa using P2.out⟩
    case round =>
      obtain ⟨k, hk, rfl, hw⟩ := hrel
      have P3 := Lib.hid hw
      clear hw P2
      by_cases hlt : k < F.refNames.length
      · obtain ⟨x, hx⟩ : ∃ x, F.refNames[k]? = some x := ⟨_, List.getElem?_eq_getElem hlt⟩
        obtain ⟨cs1, hR, hlen, hc⟩ := HE11.out k x hx
        have hc' := Sl.at_ hc hlen (by decide) (Fw.old HI.out (HA.out.trans P3.out.2.1).below0 hB)
        obtain rfl := HA11.out (by intro e; rw [e] at hlt; simp at hlt)
        have hmem : x ∈ F.refNames := List.mem_of_getElem? hx
        have hlenP : (l ++ (bs.take 17).flatten ++ (F.refNames.take k).flatMap (Nam.enc M)).length ≤ 1500000 := by
          have h1 := HN.out; have h2 := take_flatten_le bs 17
          have h3 := flat_le (Nam.enc M) 16 (F.refNames.take k) (fun y hy => by rw [nam_len]; exact Nat.le_refl _)
          rw [List.length_take] at h3
          simp only [List.length_append]
          omega
        have HX := Lib.hid hx; have HLP := Lib.hid hlenP
        clear hx hlenP
        have one := nam_one hR
        have HV := Lib.hid hc'; have HL := Lib.hid hlen; have H1 := Lib.hid one; have HRx := Lib.hid hR
        clear hc hc' hlen one hR
        go_wp2_with (first | ((with_reducible refine selD 175 ?_); go_must (refine wpList_load_cs _ rfl 57 _ rfl b11 (o11 + k * 3) cs1 rfl (Tryz.isAgg57 _) (by rw [HL.out]; exact Tryz.sizeOf57 _) HV.out ?_)) | ((with_reducible refine selS 57 ?_); go_must (refine wpList_store_all _ rfl 57 _ _ rfl _ 57 _ cs1 rfl rfl (by rw [HL.out]; exact Tryz.sizeOf57 _) (Blk.new _ 57 _) (by rw [HL.out]; rfl) H1.out ?_; intro w5 hb5 hf5; refine Hid.out ?_)))
        refine Lib.hid ?_
        have P5 := Lib.hid (P3.out.newSet hf5 (by decide) (by decide) (by decide))
        obtain ⟨hxo, hx0, hx1⟩ := nam_parts HRx.out
        have HXo := Lib.hid hxo
        have c5 : w5.cell? ⟨wr.heap.size, 2, none⟩ = some (.string x.name) := by rw [hb5.cell]; simpa using hx0
        have C5 : Hid (Cs w5 wr.heap.size 0 x.ref.cells) := Lib.hid (hb5.part (p := []) (s := x.ref.cells) (q := [.string x.name]) (by simpa using hx1))
        clear hb5 hf5 hx0 hx1 hxo
        go_wp2_with ((with_reducible refine selD 180 ?_); refine Hid.out ?_)
        refine Lib.hid ?_
        have P6 := Lib.hid (P5.out.alloc (.cells #[Value.int .u8 0, Value.int .u8 0, Value.int .u8 0, Value.int .u8 0, Value.int .u8 0, Value.int .u8 0, Value.int .u8 0, Value.int .u8 0, Value.int .u8 0, Value.int .u8 0, Value.int .u8 0, Value.int .u8 0, Value.int .u8 0, Value.int .u8 0, Value.int .u8 0, Value.int .u8 0] 129))
        have B6 := Lib.hid (Blk.new w5 129 #[Value.int .u8 0, Value.int .u8 0, Value.int .u8 0, Value.int .u8 0, Value.int .u8 0, Value.int .u8 0, Value.int .u8 0, Value.int .u8 0, Value.int .u8 0, Value.int .u8 0, Value.int .u8 0, Value.int .u8 0, Value.int .u8 0, Value.int .u8 0, Value.int .u8 0, Value.int .u8 0])
        have C6 := Lib.hid (((Fr.refl [] w5).alloc (.cells #[Value.int .u8 0, Value.int .u8 0, Value.int .u8 0, Value.int .u8 0, Value.int .u8 0, Value.int .u8 0, Value.int .u8 0, Value.int .u8 0, Value.int .u8 0, Value.int .u8 0, Value.int .u8 0, Value.int .u8 0, Value.int .u8 0, Value.int .u8 0, Value.int .u8 0, Value.int .u8 0] 129)).cs (by simp) C5.out)
        have c6 := ((Fr.refl [] w5).alloc (.cells #[Value.int .u8 0, Value.int .u8 0, Value.int .u8 0, Value.int .u8 0, Value.int .u8 0, Value.int .u8 0, Value.int .u8 0, Value.int .u8 0, Value.int .u8 0, Value.int .u8 0, Value.int .u8 0, Value.int .u8 0, Value.int .u8 0, Value.int .u8 0, Value.int .u8 0, Value.int .u8 0] 129)).cell (by simp) c5
        have hlt5 := cell_lt c5
        have hg5 := P5.out.2.1.size
        clear c5 C5 P5
        generalize w5.alloc (.cells #[Value.int .u8 0, Value.int .u8 0, Value.int .u8 0, Value.int .u8 0, Value.int .u8 0, Value.int .u8 0, Value.int .u8 0, Value.int .u8 0, Value.int .u8 0, Value.int .u8 0, Value.int .u8 0, Value.int .u8 0, Value.int .u8 0, Value.int .u8 0, Value.int .u8 0, Value.int .u8 0] 129) = w6 at P6 B6 C6 c6 ⊢
        generalize w5.heap.size = g at B6 hlt5 hg5 ⊢
        have hne : wr.heap.size ∉ [g] := by simp only [List.mem_singleton]; omega
        clear hlt5
        have HNE := Lib.hid hne
        clear hne
        go_wp2_with ((with_reducible refine selD 180 ?_); go_must (refine wpList_load_cs _ rfl 55 _ rfl wr.heap.size 0 x.ref.cells rfl (Tryz.isAgg55 _) (Tryz.sizeOf55 _) C6.out ?_))
        refine (ref_any x.ref w6).mono ?_
        rintro e w7 ⟨rfl, hf7⟩
        have P7 := Lib.hid (P6.out.fr0 hf7)
        have B7 := Lib.hid (hf7.blk (by simp) B6.out)
        have c7 := hf7.cell (by simp) c6
        clear hf7 P6 B6 C6 c6
        go_wp2_with fail
        refine (namSym_BI P7.out x.ref g HXo.out hg5 B7.out).mono ?_
        rintro e w8 ⟨rfl, h8, hb8, hf8⟩
        have P8 := Lib.hid h8
        have B8 := Lib.hid hb8
        have c8 := hf8.cell HNE.out c7
        clear h8 hb8 hf8 P7 B7 c7
        go_wp2_with fail
        refine (namName_BI P8.out x g (by have h1 := HS.out.names x hmem; omega) (HM.out x.name (by simp only [strs, List.mem_append, List.mem_cons, List.mem_map]; exact Or.inr ⟨x, hmem, rfl⟩)) hg5 B8.out).mono ?_
        rintro e w9 ⟨rfl, h9, hb9⟩
        have PA := Lib.hid h9
        have B9 := Lib.hid hb9
        clear h9 hb9 P8 B8 c8
        go_wp2_with fail
        refine (namW_BI PA.out x g (by have := HLP.out; omega) B9.out).mono ?_
        rintro e w10 ⟨rfl, h10⟩
        have P9 := Lib.hid h10
        clear h10
        go_wp2
        go_roundw
        case rel => exact ⟨k + 1, by omega, by go_num, by
          have h9 := P9.out
          rw [flatMap_succ _ _ _ _ HX.out, ← List.append_assoc]
          simpa using h9⟩
        case measure => simp [intOf]; omega
      · have e : k = F.refNames.length := by omega
        subst e
        go_wp2
        have hX := P3.out
        rw [List.take_length, List.append_assoc, ← flat_succ bs 17 _ Q17.out] at hX
        go_meet
        case rel => exact hX
  case rest =>
  clear P2 ce
  have P1 := Lib.hid hcut
  clear hcut
  go_wp2_with fail
  obtain ⟨n18, hn18⟩ : ∃ n : Int, ((l ++ (bs.take 18).flatten).length : Int) = n := ⟨_, rfl⟩
  refine (offset_q P1.out n18 hn18).mono ?_
  rintro e wx ⟨rfl, hwx⟩
  rw [hwx]
  clear hwx wx
  have cc := P1.out.cell 18 0 (by rw [offs_get _ _ _ _ (by decide)]; rfl)
  have cf := P1.out.frozen 18
  go_wp2_with ((with_reducible refine selD 195 ?_); refine Hid.out ?_)
  refine Lib.hid ?_
  have P2 := Lib.hid (BI.stored P1.out hn18)
  clear P1 cc cf hn18
  generalize wc.setCell ⟨ob, 18, none⟩ (.int .u32 n18) = w3 at P2 ⊢
  have HOB := Lib.hid P2.out.2.2.1.all
  have HRB := Lib.hid (HR.out w3 P2.out.2.1)
  have hl62 : ((offs l.length bs 19).map (Value.int .u32 ·)).length = 19 := by rw [List.length_map, offs_len]
  have HL62 := Lib.hid hl62
  clear hl62
  go_wp2_with (first | ((with_reducible refine selD 195 ?_); go_must (refine wpList_load_cs _ rfl 62 _ rfl ob 0 ((offs l.length bs 19).map (Value.int .u32 ·)) rfl (Tryz.isAgg62 _) (by rw [HL62.out]; exact Tryz.sizeOf62 _) HOB.out ?_)) | ((with_reducible refine selS 62 ?_); go_must (refine wpList_store_all _ rfl 62 _ _ rfl _ 62 _ ((offs l.length bs 19).map (Value.int .u32 ·)) rfl rfl (by rw [HL62.out]; exact Tryz.sizeOf62 _) HRB.out (by rw [HL62.out]; rfl) (by intro v hv; obtain ⟨y, _, rfl⟩ := List.mem_map.1 hv; rfl) ?_; intro w5 hb5 hf5; refine Hid.out ?_)))
  refine Lib.hid ?_
  have hW := P2.out.1.keep hf5 (by simp only [List.mem_singleton]; rintro y rfl; exact .inr ⟨62, _, HRB.out, by decide, by decide, by decide⟩)
  rw [← HLB.out, List.take_length] at hW
  have hFF := (((HA.out.trans P2.out.2.1).thenNew hf5 hwS hrb1).mono (S' := i.S) (by
    intro y hy
    rcases List.mem_cons.1 hy with h1 | h1
    · exact .inr (by omega)
    · exact .inl h1))
  have HW := Lib.hid hW; have HFF := Lib.hid hFF
  have HB5 : Hid (Cs w5 rb 0 ((offs l.length bs 19).map (Value.int .u32 ·))) := Lib.hid (by have := hb5.all; simpa using this)
  clear hW hFF hb5 hf5
  go_wp2_with fail
  exact bodyPost_ret (results_cell _ 4 62 rfl _ rb 0 rfl _ _ (Tryz.isAgg62 _) (by rw [HL62.out]; exact Tryz.sizeOf62 _) HB5.out) rfl ⟨rfl, HW.out, HFF.out⟩
end Go.Proofs.YtnhafphgkipldaaGreatDoor
