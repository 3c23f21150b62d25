/- impl.Options by value as an argument, opened and shut. No function of the program. Printed by gen-optarg.py. -/
import Derived.Test.YtgjocdnpephcgaaGreatDoorOptA
import Derived.Test.YtgjocdnpephcgaaGreatDoorEntArg
import Derived.Lib.SmallJoins
import Derived.OpenShut
namespace Go.Proofs.YtgjocdnpephcgaaGreatDoor
open Go.Joins Go.Deep Go.RowKit Go.ChangeShapes Go.WideShapes Go.ChangeAt Go.WideMaps Go.WideElems

theorem array12 {α : Type} {cs : Array α} (h : cs.size = 12) : ∃ c0 c1 c2 c3 c4 c5 c6 c7 c8 c9 c10 c11, cs = #[c0, c1, c2, c3, c4, c5, c6, c7, c8, c9, c10, c11] := by
  obtain ⟨l⟩ := cs
  match l, h with
  | [c0, c1, c2, c3, c4, c5, c6, c7, c8, c9, c10, c11], _ => exact ⟨c0, c1, c2, c3, c4, c5, c6, c7, c8, c9, c10, c11, rfl⟩
theorem list12 {α : Type} {l : List α} (h : l.length = 12) : ∃ c0 c1 c2 c3 c4 c5 c6 c7 c8 c9 c10 c11, l = [c0, c1, c2, c3, c4, c5, c6, c7, c8, c9, c10, c11] := by
  match l, h with
  | [c0, c1, c2, c3, c4, c5, c6, c7, c8, c9, c10, c11], _ => exact ⟨c0, c1, c2, c3, c4, c5, c6, c7, c8, c9, c10, c11, rfl⟩

section
variable {H : Type} {enc : TypeId × Value → H} {P : Program} {w : World} {base : Nat} {spare : Nat → Bool} {held : Bool}

theorem open_12 {r : Reach} {b0 : Nat} {t u bt : TypeId} {f0 f1 f2 f3 f4 f5 f6 f7 f8 f9 f10 f11 : Field} {v : Value} {d : DataW H} {p : List MemPlace} (hs : P.underlying t = some (.struct #[f0, f1, f2, f3, f4, f5, f6, f7, f8, f9, f10, f11])) (hone : oneCellFields P #[f0, f1, f2, f3, f4, f5, f6, f7, f8, f9, f10, f11] = true) (hC : P.cellsOf t = 12) (hu : P.underlying u = some (.int .u64)) (hbt : P.underlying bt = some .bool) (e0 : f0.type = bt) (e1 : f1.type = bt) (e2 : f2.type = bt) (e3 : f3.type = bt) (e4 : f4.type = bt) (e5 : f5.type = bt) (e6 : f6.type = u) (e7 : f7.type = u) (e8 : f8.type = u) (e9 : f9.type = u) (e10 : f10.type = u) (e11 : f11.type = u)
    (hv : Value.okWide P w r b0 t v) (h : DataW.Trod enc P w base spare held t v d p) :
    ∃ (x0 x1 x2 x3 x4 x5 : Bool) (z6 z7 z8 z9 z10 z11 : Int), v = .agg #[.bool x0, .bool x1, .bool x2, .bool x3, .bool x4, .bool x5, .int .u64 z6, .int .u64 z7, .int .u64 z8, .int .u64 z9, .int .u64 z10, .int .u64 z11] ∧ d = .agg [.lit (.bool x0), .lit (.bool x1), .lit (.bool x2), .lit (.bool x3), .lit (.bool x4), .lit (.bool x5), .lit (.int .u64 z6), .lit (.int .u64 z7), .lit (.int .u64 z8), .lit (.int .u64 z9), .lit (.int .u64 z10), .lit (.int .u64 z11)] ∧ p = [] ∧ (Lit.int .u64 z6).wf = true ∧ (Lit.int .u64 z7).wf = true ∧ (Lit.int .u64 z8).wf = true ∧ (Lit.int .u64 z9).wf = true ∧ (Lit.int .u64 z10).wf = true ∧ (Lit.int .u64 z11).wf = true := by
  obtain ⟨cs, rfl, hsz⟩ := okWide_struct hs hv
  obtain ⟨c0, c1, c2, c3, c4, c5, c6, c7, c8, c9, c10, c11, rfl⟩ := array12 (hsz.trans hC)
  obtain ⟨fuel, hf⟩ := h
  obtain ⟨xs, n, _, hx, hl, hlen, hfs⟩ := DataW.trod_struct hs hf
  obtain ⟨o0, k0⟩ := hone_of hone 0 f0 rfl
  obtain ⟨o1, k1⟩ := hone_of hone 1 f1 rfl
  obtain ⟨o2, k2⟩ := hone_of hone 2 f2 rfl
  obtain ⟨o3, k3⟩ := hone_of hone 3 f3 rfl
  obtain ⟨o4, k4⟩ := hone_of hone 4 f4 rfl
  obtain ⟨o5, k5⟩ := hone_of hone 5 f5 rfl
  obtain ⟨o6, k6⟩ := hone_of hone 6 f6 rfl
  obtain ⟨o7, k7⟩ := hone_of hone 7 f7 rfl
  obtain ⟨o8, k8⟩ := hone_of hone 8 f8 rfl
  obtain ⟨o9, k9⟩ := hone_of hone 9 f9 rfl
  obtain ⟨o10, k10⟩ := hone_of hone 10 f10 rfl
  obtain ⟨o11, k11⟩ := hone_of hone 11 f11 rfl
  obtain ⟨y0, y1, y2, y3, y4, y5, y6, y7, y8, y9, y10, y11, rfl⟩ := list12 (show xs.length = 12 from hlen)
  have h0 : DataW.trod enc P w base spare held n bt [c0] = some y0 := by have := hfs 0 f0 rfl; rw [e0] at this k0; simpa [Value.cells, o0, k0] using this
  have h1 : DataW.trod enc P w base spare held n bt [c1] = some y1 := by have := hfs 1 f1 rfl; rw [e1] at this k1; simpa [Value.cells, o1, k1] using this
  have h2 : DataW.trod enc P w base spare held n bt [c2] = some y2 := by have := hfs 2 f2 rfl; rw [e2] at this k2; simpa [Value.cells, o2, k2] using this
  have h3 : DataW.trod enc P w base spare held n bt [c3] = some y3 := by have := hfs 3 f3 rfl; rw [e3] at this k3; simpa [Value.cells, o3, k3] using this
  have h4 : DataW.trod enc P w base spare held n bt [c4] = some y4 := by have := hfs 4 f4 rfl; rw [e4] at this k4; simpa [Value.cells, o4, k4] using this
  have h5 : DataW.trod enc P w base spare held n bt [c5] = some y5 := by have := hfs 5 f5 rfl; rw [e5] at this k5; simpa [Value.cells, o5, k5] using this
  have h6 : DataW.trod enc P w base spare held n u [c6] = some y6 := by have := hfs 6 f6 rfl; rw [e6] at this k6; simpa [Value.cells, o6, k6] using this
  have h7 : DataW.trod enc P w base spare held n u [c7] = some y7 := by have := hfs 7 f7 rfl; rw [e7] at this k7; simpa [Value.cells, o7, k7] using this
  have h8 : DataW.trod enc P w base spare held n u [c8] = some y8 := by have := hfs 8 f8 rfl; rw [e8] at this k8; simpa [Value.cells, o8, k8] using this
  have h9 : DataW.trod enc P w base spare held n u [c9] = some y9 := by have := hfs 9 f9 rfl; rw [e9] at this k9; simpa [Value.cells, o9, k9] using this
  have h10 : DataW.trod enc P w base spare held n u [c10] = some y10 := by have := hfs 10 f10 rfl; rw [e10] at this k10; simpa [Value.cells, o10, k10] using this
  have h11 : DataW.trod enc P w base spare held n u [c11] = some y11 := by have := hfs 11 f11 rfl; rw [e11] at this k11; simpa [Value.cells, o11, k11] using this
  obtain ⟨x0, q0, rfl⟩ := DataW.trod_bool hbt h0
  obtain ⟨x1, q1, rfl⟩ := DataW.trod_bool hbt h1
  obtain ⟨x2, q2, rfl⟩ := DataW.trod_bool hbt h2
  obtain ⟨x3, q3, rfl⟩ := DataW.trod_bool hbt h3
  obtain ⟨x4, q4, rfl⟩ := DataW.trod_bool hbt h4
  obtain ⟨x5, q5, rfl⟩ := DataW.trod_bool hbt h5
  obtain ⟨z6, q6, rfl, w6⟩ := DataW.trod_int hu h6
  obtain ⟨z7, q7, rfl, w7⟩ := DataW.trod_int hu h7
  obtain ⟨z8, q8, rfl, w8⟩ := DataW.trod_int hu h8
  obtain ⟨z9, q9, rfl, w9⟩ := DataW.trod_int hu h9
  obtain ⟨z10, q10, rfl, w10⟩ := DataW.trod_int hu h10
  obtain ⟨z11, q11, rfl, w11⟩ := DataW.trod_int hu h11
  simp at q0 q1 q2 q3 q4 q5 q6 q7 q8 q9 q10 q11
  subst q0 q1 q2 q3 q4 q5 q6 q7 q8 q9 q10 q11
  simp only [Prod.mk.injEq] at hx
  exact ⟨x0, x1, x2, x3, x4, x5, z6, z7, z8, z9, z10, z11, rfl, by simpa using hx.1, by simpa using hx.2, w6, w7, w8, w9, w10, w11⟩

theorem shut_12 {t u bt : TypeId} {f0 f1 f2 f3 f4 f5 f6 f7 f8 f9 f10 f11 : Field} {x0 x1 x2 x3 x4 x5 : Bool} {z6 z7 z8 z9 z10 z11 : Int} (hs : P.underlying t = some (.struct #[f0, f1, f2, f3, f4, f5, f6, f7, f8, f9, f10, f11])) (hone : oneCellFields P #[f0, f1, f2, f3, f4, f5, f6, f7, f8, f9, f10, f11] = true) (hC : P.cellsOf t = 12) (hu : P.underlying u = some (.int .u64)) (hbt : P.underlying bt = some .bool) (e0 : f0.type = bt) (e1 : f1.type = bt) (e2 : f2.type = bt) (e3 : f3.type = bt) (e4 : f4.type = bt) (e5 : f5.type = bt) (e6 : f6.type = u) (e7 : f7.type = u) (e8 : f8.type = u) (e9 : f9.type = u) (e10 : f10.type = u) (e11 : f11.type = u)
    (w6 : (Lit.int .u64 z6).wf = true) (w7 : (Lit.int .u64 z7).wf = true) (w8 : (Lit.int .u64 z8).wf = true) (w9 : (Lit.int .u64 z9).wf = true) (w10 : (Lit.int .u64 z10).wf = true) (w11 : (Lit.int .u64 z11).wf = true) :
    DataW.Trod enc P w base spare held t (.agg #[.bool x0, .bool x1, .bool x2, .bool x3, .bool x4, .bool x5, .int .u64 z6, .int .u64 z7, .int .u64 z8, .int .u64 z9, .int .u64 z10, .int .u64 z11]) (.agg [.lit (.bool x0), .lit (.bool x1), .lit (.bool x2), .lit (.bool x3), .lit (.bool x4), .lit (.bool x5), .lit (.int .u64 z6), .lit (.int .u64 z7), .lit (.int .u64 z8), .lit (.int .u64 z9), .lit (.int .u64 z10), .lit (.int .u64 z11)]) [] := by
  obtain ⟨o0, k0⟩ := hone_of hone 0 f0 rfl
  rw [e0] at k0
  obtain ⟨o1, k1⟩ := hone_of hone 1 f1 rfl
  rw [e1] at k1
  obtain ⟨o2, k2⟩ := hone_of hone 2 f2 rfl
  rw [e2] at k2
  obtain ⟨o3, k3⟩ := hone_of hone 3 f3 rfl
  rw [e3] at k3
  obtain ⟨o4, k4⟩ := hone_of hone 4 f4 rfl
  rw [e4] at k4
  obtain ⟨o5, k5⟩ := hone_of hone 5 f5 rfl
  rw [e5] at k5
  obtain ⟨o6, k6⟩ := hone_of hone 6 f6 rfl
  rw [e6] at k6
  obtain ⟨o7, k7⟩ := hone_of hone 7 f7 rfl
  rw [e7] at k7
  obtain ⟨o8, k8⟩ := hone_of hone 8 f8 rfl
  rw [e8] at k8
  obtain ⟨o9, k9⟩ := hone_of hone 9 f9 rfl
  rw [e9] at k9
  obtain ⟨o10, k10⟩ := hone_of hone 10 f10 rfl
  rw [e10] at k10
  obtain ⟨o11, k11⟩ := hone_of hone 11 f11 rfl
  rw [e11] at k11
  have g0 : DataW.trod enc P w base spare held 1 bt [.bool x0] = some (.lit (.bool x0), []) := by simp [DataW.trod, hbt]
  have g1 : DataW.trod enc P w base spare held 1 bt [.bool x1] = some (.lit (.bool x1), []) := by simp [DataW.trod, hbt]
  have g2 : DataW.trod enc P w base spare held 1 bt [.bool x2] = some (.lit (.bool x2), []) := by simp [DataW.trod, hbt]
  have g3 : DataW.trod enc P w base spare held 1 bt [.bool x3] = some (.lit (.bool x3), []) := by simp [DataW.trod, hbt]
  have g4 : DataW.trod enc P w base spare held 1 bt [.bool x4] = some (.lit (.bool x4), []) := by simp [DataW.trod, hbt]
  have g5 : DataW.trod enc P w base spare held 1 bt [.bool x5] = some (.lit (.bool x5), []) := by simp [DataW.trod, hbt]
  have g6 : DataW.trod enc P w base spare held 1 u [.int .u64 z6] = some (.lit (.int .u64 z6), []) := by simp [DataW.trod, hu, w6]
  have g7 : DataW.trod enc P w base spare held 1 u [.int .u64 z7] = some (.lit (.int .u64 z7), []) := by simp [DataW.trod, hu, w7]
  have g8 : DataW.trod enc P w base spare held 1 u [.int .u64 z8] = some (.lit (.int .u64 z8), []) := by simp [DataW.trod, hu, w8]
  have g9 : DataW.trod enc P w base spare held 1 u [.int .u64 z9] = some (.lit (.int .u64 z9), []) := by simp [DataW.trod, hu, w9]
  have g10 : DataW.trod enc P w base spare held 1 u [.int .u64 z10] = some (.lit (.int .u64 z10), []) := by simp [DataW.trod, hu, w10]
  have g11 : DataW.trod enc P w base spare held 1 u [.int .u64 z11] = some (.lit (.int .u64 z11), []) := by simp [DataW.trod, hu, w11]
  have := trod_struct_mk (enc := enc) (w := w) (base := base) (spare := spare) (held := held) (n := 1) (cs := [.bool x0, .bool x1, .bool x2, .bool x3, .bool x4, .bool x5, .int .u64 z6, .int .u64 z7, .int .u64 z8, .int .u64 z9, .int .u64 z10, .int .u64 z11]) (xs := [(.lit (.bool x0), []), (.lit (.bool x1), []), (.lit (.bool x2), []), (.lit (.bool x3), []), (.lit (.bool x4), []), (.lit (.bool x5), []), (.lit (.int .u64 z6), []), (.lit (.int .u64 z7), []), (.lit (.int .u64 z8), []), (.lit (.int .u64 z9), []), (.lit (.int .u64 z10), []), (.lit (.int .u64 z11), [])]) hs (by simp [hC])
    (by simp [e0, e1, e2, e3, e4, e5, e6, e7, e8, e9, e10, e11, o0, o1, o2, o3, o4, o5, o6, o7, o8, o9, o10, o11, g0, g1, g2, g3, g4, g5, g6, g7, g8, g9, g10, g11, k0, k6])
  exact ⟨_, by simpa [Value.cells] using this⟩

def optD (o : OptI) : DataW H := .agg [.lit (.bool o.z), .lit (.bool o.id), .lit (.bool o.dup), .lit (.bool o.wh), .lit (.bool o.v1), .lit (.bool o.tr), .lit (.int .u64 o.dp), .lit (.int .u64 o.ip), .lit (.int .u64 o.codec), .lit (.int .u64 o.mc), .lit (.int .u64 o.mh), .lit (.int .u64 o.ms)]
def OptI.wf (o : OptI) : Prop := o.dp < 18446744073709551616 ∧ o.ip < 18446744073709551616 ∧ o.codec < 18446744073709551616 ∧ o.mc < 18446744073709551616 ∧ o.mh < 18446744073709551616 ∧ o.ms < 18446744073709551616
set_option maxRecDepth 100000 in
theorem open_opts {r : Reach} {b0 : Nat} {v : Value} {d : DataW H} {p : List MemPlace} (hv : Value.okWide Tryz.prog w r b0 27 v) (h : DataW.Trod enc Tryz.prog w base spare held 27 v d p) :
    ∃ o : OptI, v = .agg o.cells ∧ d = optD o ∧ p = [] ∧ o.wf := by
  obtain ⟨x0, x1, x2, x3, x4, x5, z6, z7, z8, z9, z10, z11, rfl, rfl, rfl, w6, w7, w8, w9, w10, w11⟩ := open_12 Tryz.underlying27 (by kernel_rfl) (by kernel_rfl) Tryz.underlying23 Tryz.underlying4 rfl rfl rfl rfl rfl rfl rfl rfl rfl rfl rfl rfl hv h
  obtain ⟨a6, rfl, l6⟩ := nat_u64 w6
  obtain ⟨a7, rfl, l7⟩ := nat_u64 w7
  obtain ⟨a8, rfl, l8⟩ := nat_u64 w8
  obtain ⟨a9, rfl, l9⟩ := nat_u64 w9
  obtain ⟨a10, rfl, l10⟩ := nat_u64 w10
  obtain ⟨a11, rfl, l11⟩ := nat_u64 w11
  exact ⟨⟨x0, x1, x2, x3, x4, x5, a6, a7, a8, a9, a10, a11⟩, rfl, rfl, rfl, l6, l7, l8, l9, l10, l11⟩
set_option maxRecDepth 100000 in
theorem shut_opts {o : OptI} (h : o.wf) : DataW.Trod enc Tryz.prog w base spare held 27 (.agg o.cells) (optD o) [] := by
  obtain ⟨l6, l7, l8, l9, l10, l11⟩ := h
  exact shut_12 Tryz.underlying27 (by kernel_rfl) (by kernel_rfl) Tryz.underlying23 Tryz.underlying4 rfl rfl rfl rfl rfl rfl rfl rfl rfl rfl rfl rfl (wf_nat l6) (wf_nat l7) (wf_nat l8) (wf_nat l9) (wf_nat l10) (wf_nat l11)
end

end Go.Proofs.YtgjocdnpephcgaaGreatDoor
