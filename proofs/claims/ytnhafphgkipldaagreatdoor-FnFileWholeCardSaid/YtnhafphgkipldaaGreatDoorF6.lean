/- laws.zzFits6: a bool, and true only where the lists of symbols are no longer than the bound. Conditions: the lists are no longer than 2^63 - 1. -/
import Derived.Test.YtnhafphgkipldaaGreatDoorFt
namespace Go.Proofs.YtnhafphgkipldaaGreatDoor
open Go Go.RowKit

/-- What a file in memory is at most. -/
structure Lens (F : Fil) : Prop where
  l0 : F.imports.length ≤ 9223372036854775807
  l1 : F.packages.length ≤ 9223372036854775807
  l2 : F.files.length ≤ 9223372036854775807
  l3 : F.own.length ≤ 9223372036854775807
  l4 : F.short.length ≤ 9223372036854775807
  l5 : F.hashed.length ≤ 9223372036854775807
  l6 : F.other.length ≤ 9223372036854775807
  l7 : F.refs.length ≤ 9223372036854775807
  l8 : F.refFlags.length ≤ 9223372036854775807
  l9 : F.hashes64.length ≤ 9223372036854775807
  l10 : F.hashes.length ≤ 9223372036854775807
  l11 : F.refNames.length ≤ 9223372036854775807
/-- What zzFits6 has found. -/
def Short (F : Fil) : Prop := F.own.length ≤ 2147483647 ∧ F.short.length ≤ 2147483647 ∧ F.hashed.length ≤ 2147483647 ∧ F.other.length ≤ 2147483647
/-- A box that holds a file's value. -/
structure Box (F : Fil) (w : World) (A : Nat) (cs : List Value) (v0 v1 v2 v3 v4 v5 v6 v7 v8 v9 v10 v11 : Value) (z : World) : Prop where
  fr : Fr [] w z
  a : Blk z A 33 cs.toArray
  fs : FilS z F v0 v1 v2 v3 v4 v5 v6 v7 v8 v9 v10 v11
theorem Box.fr0 {F : Fil} {w : World} {A : Nat} {cs : List Value} {v0 v1 v2 v3 v4 v5 v6 v7 v8 v9 v10 v11 : Value} {z z' : World} (h : Box F w A cs v0 v1 v2 v3 v4 v5 v6 v7 v8 v9 v10 v11 z) (f : Fr [] z z') : Box F w A cs v0 v1 v2 v3 v4 v5 v6 v7 v8 v9 v10 v11 z' :=
  ⟨h.fr.trans f, f.blk (by simp) h.a, h.fs.fr f⟩
theorem Box.cell {F : Fil} {w : World} {A : Nat} {cs : List Value} {v0 v1 v2 v3 v4 v5 v6 v7 v8 v9 v10 v11 : Value} {z : World} (h : Box F w A cs v0 v1 v2 v3 v4 v5 v6 v7 v8 v9 v10 v11 z) (i : Nat) (v : Value) (hv : cs[i]? = some v) : z.cell? ⟨A, i, none⟩ = some v := by rw [h.a.cell]; simpa using hv
theorem Box.new {F : Fil} {w : World} {cs : List Value} {v0 v1 v2 v3 v4 v5 v6 v7 v8 v9 v10 v11 : Value} (hk : FilS w F v0 v1 v2 v3 v4 v5 v6 v7 v8 v9 v10 v11) : Box F w w.heap.size cs v0 v1 v2 v3 v4 v5 v6 v7 v8 v9 v10 v11 (w.alloc (.cells cs.toArray 33)) := ⟨(Fr.refl [] w).alloc _, Blk.new w 33 _, hk.fr ((Fr.refl [] w).alloc _)⟩
set_option maxHeartbeats 3200000 in
set_option maxRecDepth 100000 in
theorem fits6_any (F : Fil) (v : Value) (w : World) (hL : Lens F) (h : FilR w v F) : Calls Tryz.prog 4 #[v] w (FitB (Short F) w) := by
  obtain ⟨cs, v0, v1, v2, v3, v4, v5, v6, v7, v8, v9, v10, v11, rfl, hc, hk⟩ := h
  have HL := Lib.hid hL; have HC := Lib.hid hc
  have T0 := Lib.hid (Box.new (cs := cs) hk)
  obtain ⟨A8, k8, e8, -⟩ := hk.s8
  obtain ⟨A9, k9, e9, -⟩ := hk.s9
  obtain ⟨A10, k10, e10, -⟩ := hk.s10
  subst e8; subst e9; subst e10
  clear hL hc hk
  go_enter Tryz.func4, Tryz.ntmps4
  go_wp2_with ((with_reducible refine selD 3 ?_); refine Hid.out ?_)
  refine Lib.hid ?_
  generalize w.alloc (.cells cs.toArray 33) = z0 at T0 ⊢
  generalize hgA : w.heap.size = gA at T0 ⊢
  clear hgA
  have a9 := T0.out.cell 9 _ HC.out.e0
  go_wp2_with fail
  refine (fits9_any F.imports v0 _ HL.out.l0 T0.out.fs.s0).mono ?_
  rintro e z1 ⟨r, rfl, h1, f1⟩
  have T1 := Lib.hid (T0.out.fr0 f1)
  have H1 := Lib.hid h1
  clear f1 T0 a9 h1
  cases r
  · go_wp2; go_ret; exact FitB.no T1.out.fr
  have a10 := T1.out.cell 10 _ HC.out.e1
  go_wp2_with fail
  refine (fits10_any F.packages v1 _ HL.out.l1 T1.out.fs.s1).mono ?_
  rintro e z2 ⟨r, rfl, h2, f2⟩
  have T2 := Lib.hid (T1.out.fr0 f2)
  have H2 := Lib.hid h2
  clear f2 T1 a10 h2
  cases r
  · go_wp2; go_ret; exact FitB.no T2.out.fr
  have a11 := T2.out.cell 11 _ HC.out.e2
  go_wp2_with fail
  refine (fits10_any F.files v2 _ HL.out.l2 T2.out.fs.s2).mono ?_
  rintro e z3 ⟨r, rfl, h3, f3⟩
  have T3 := Lib.hid (T2.out.fr0 f3)
  have H3 := Lib.hid h3
  clear f3 T2 a11 h3
  cases r
  · go_wp2; go_ret; exact FitB.no T3.out.fr
  have a12 := T3.out.cell 12 _ HC.out.e3
  go_wp2_with fail
  refine (fits11_any F.own v3 _ HL.out.l3 T3.out.fs.s3).mono ?_
  rintro e z4 ⟨r, rfl, h4, f4⟩
  have T4 := Lib.hid (T3.out.fr0 f4)
  have H4 := Lib.hid h4
  clear f4 T3 a12 h4
  cases r
  · go_wp2; go_ret; exact FitB.no T4.out.fr
  have a13 := T4.out.cell 13 _ HC.out.e4
  go_wp2_with fail
  refine (fits11_any F.short v4 _ HL.out.l4 T4.out.fs.s4).mono ?_
  rintro e z5 ⟨r, rfl, h5, f5⟩
  have T5 := Lib.hid (T4.out.fr0 f5)
  have H5 := Lib.hid h5
  clear f5 T4 a13 h5
  cases r
  · go_wp2; go_ret; exact FitB.no T5.out.fr
  have a14 := T5.out.cell 14 _ HC.out.e5
  go_wp2_with fail
  refine (fits11_any F.hashed v5 _ HL.out.l5 T5.out.fs.s5).mono ?_
  rintro e z6 ⟨r, rfl, h6, f6⟩
  have T6 := Lib.hid (T5.out.fr0 f6)
  have H6 := Lib.hid h6
  clear f6 T5 a14 h6
  cases r
  · go_wp2; go_ret; exact FitB.no T6.out.fr
  have a15 := T6.out.cell 15 _ HC.out.e6
  go_wp2_with fail
  refine (fits11_any F.other v6 _ HL.out.l6 T6.out.fs.s6).mono ?_
  rintro e z7 ⟨r, rfl, h7, f7⟩
  have T7 := Lib.hid (T6.out.fr0 f7)
  have H7 := Lib.hid h7
  clear f7 T6 a15 h7
  cases r
  · go_wp2; go_ret; exact FitB.no T7.out.fr
  have a16 := T7.out.cell 16 _ HC.out.e7
  go_wp2_with fail
  refine (fits12_any F.refs v7 _ HL.out.l7 T7.out.fs.s7).mono ?_
  rintro e z8 ⟨r, rfl, h8, f8⟩
  have T8 := Lib.hid (T7.out.fr0 f8)
  have H8 := Lib.hid h8
  clear f8 T7 a16 h8
  cases r
  · go_wp2; go_ret; exact FitB.no T8.out.fr
  have S := Lib.hid (⟨H4.out trivial, H5.out trivial, H6.out trivial, H7.out trivial⟩ : Short F)
  clear H1 H2 H3 H4 H5 H6 H7 H8
  have a17 := T8.out.cell 17 _ HC.out.e8; have a18 := T8.out.cell 18 _ HC.out.e9; have a19 := T8.out.cell 19 _ HC.out.e10; have a20 := T8.out.cell 20 _ HC.out.e11
  by_cases q8 : F.refFlags.length ≤ 2147483647
  · by_cases q9 : F.hashes64.length ≤ 2147483647
    · by_cases q10 : F.hashes.length ≤ 2147483647
      · go_wp2_with fail
        refine (fits13_any F.refNames v11 _ HL.out.l11 T8.out.fs.s11).mono ?_
        rintro e z9 ⟨r, rfl, -, f9⟩
        have T9 := Lib.hid (T8.out.fr0 f9)
        clear f9 T8 a17 a18 a19 a20
        cases r
        · go_wp2; go_ret; exact FitB.no T9.out.fr
        · go_wp2; go_ret; exact FitB.yes S.out T9.out.fr _
      · go_wp2; go_ret; exact FitB.no T8.out.fr
    · go_wp2; go_ret; exact FitB.no T8.out.fr
  · go_wp2; go_ret; exact FitB.no T8.out.fr

end Go.Proofs.YtnhafphgkipldaaGreatDoor
