/- A struct of five numbers by value, opened and shut. No function of the program. -/
import Derived.Test.YtkcpgcaccgahaaaGreatDoorBase
import Derived.Lib.SmallJoins
import Derived.OpenShut
namespace Go.Proofs.YtkcpgcaccgahaaaGreatDoor
open Go.Joins Go.Deep Go.RowKit Go.ChangeShapes Go.WideShapes Go.ChangeAt Go.WideMaps Go.WideElems

theorem array5 {α : Type} {cs : Array α} (h : cs.size = 5) : ∃ c0 c1 c2 c3 c4, cs = #[c0, c1, c2, c3, c4] := by
  obtain ⟨l⟩ := cs
  match l, h with
  | [c0, c1, c2, c3, c4], _ => exact ⟨c0, c1, c2, c3, c4, rfl⟩

section
variable {H : Type} {enc : TypeId × Value → H} {P : Program} {w : World} {base : Nat} {spare : Nat → Bool} {held : Bool}

theorem open_five {r : Reach} {b0 : Nat} {t u : TypeId} {f0 f1 f2 f3 f4 : Field} {v : Value} {d : DataW H} {p : List MemPlace} (hs : P.underlying t = some (.struct #[f0, f1, f2, f3, f4])) (hone : oneCellFields P #[f0, f1, f2, f3, f4] = true) (hC : P.cellsOf t = 5)
    (hu : P.underlying u = some (.int .u64)) (e0 : f0.type = u) (e1 : f1.type = u) (e2 : f2.type = u) (e3 : f3.type = u) (e4 : f4.type = u)
    (hv : Value.okWide P w r b0 t v) (h : DataW.Trod enc P w base spare held t v d p) :
    ∃ z0 z1 z2 z3 z4 : Int, v = .agg #[.int .u64 z0, .int .u64 z1, .int .u64 z2, .int .u64 z3, .int .u64 z4] ∧ d = .agg [.lit (.int .u64 z0), .lit (.int .u64 z1), .lit (.int .u64 z2), .lit (.int .u64 z3), .lit (.int .u64 z4)] ∧ p = [] ∧
      (Lit.int .u64 z0).wf = true ∧ (Lit.int .u64 z1).wf = true ∧ (Lit.int .u64 z2).wf = true ∧ (Lit.int .u64 z3).wf = true ∧ (Lit.int .u64 z4).wf = true := by
  obtain ⟨cs, rfl, hsz⟩ := okWide_struct hs hv
  obtain ⟨c0, c1, c2, c3, c4, rfl⟩ := array5 (hsz.trans hC)
  obtain ⟨fuel, hf⟩ := h
  obtain ⟨xs, n, _, hx, hl, hlen, hfs⟩ := DataW.trod_struct hs hf
  obtain ⟨o0, k0⟩ := hone_of hone 0 f0 rfl
  obtain ⟨o1, k1⟩ := hone_of hone 1 f1 rfl
  obtain ⟨o2, k2⟩ := hone_of hone 2 f2 rfl
  obtain ⟨o3, k3⟩ := hone_of hone 3 f3 rfl
  obtain ⟨o4, k4⟩ := hone_of hone 4 f4 rfl
  match xs, hlen with
  | [y0, y1, y2, y3, y4], _ =>
    have h0 : DataW.trod enc P w base spare held n u [c0] = some y0 := by have := hfs 0 f0 rfl; rw [e0] at this k0; simpa [Value.cells, o0, k0] using this
    have h1 : DataW.trod enc P w base spare held n u [c1] = some y1 := by have := hfs 1 f1 rfl; rw [e1] at this k1; simpa [Value.cells, o1, k1] using this
    have h2 : DataW.trod enc P w base spare held n u [c2] = some y2 := by have := hfs 2 f2 rfl; rw [e2] at this k2; simpa [Value.cells, o2, k2] using this
    have h3 : DataW.trod enc P w base spare held n u [c3] = some y3 := by have := hfs 3 f3 rfl; rw [e3] at this k3; simpa [Value.cells, o3, k3] using this
    have h4 : DataW.trod enc P w base spare held n u [c4] = some y4 := by have := hfs 4 f4 rfl; rw [e4] at this k4; simpa [Value.cells, o4, k4] using this
    obtain ⟨z0, q0, rfl, w0⟩ := DataW.trod_int hu h0
    obtain ⟨z1, q1, rfl, w1⟩ := DataW.trod_int hu h1
    obtain ⟨z2, q2, rfl, w2⟩ := DataW.trod_int hu h2
    obtain ⟨z3, q3, rfl, w3⟩ := DataW.trod_int hu h3
    obtain ⟨z4, q4, rfl, w4⟩ := DataW.trod_int hu h4
    simp at q0 q1 q2 q3 q4
    subst q0 q1 q2 q3 q4
    simp only [Prod.mk.injEq] at hx
    exact ⟨z0, z1, z2, z3, z4, rfl, by simpa using hx.1, by simpa using hx.2, w0, w1, w2, w3, w4⟩

theorem shut_five {t u : TypeId} {f0 f1 f2 f3 f4 : Field} {z0 z1 z2 z3 z4 : Int} (hs : P.underlying t = some (.struct #[f0, f1, f2, f3, f4])) (hone : oneCellFields P #[f0, f1, f2, f3, f4] = true) (hC : P.cellsOf t = 5)
    (hu : P.underlying u = some (.int .u64)) (e0 : f0.type = u) (e1 : f1.type = u) (e2 : f2.type = u) (e3 : f3.type = u) (e4 : f4.type = u)
    (w0 : (Lit.int .u64 z0).wf = true) (w1 : (Lit.int .u64 z1).wf = true) (w2 : (Lit.int .u64 z2).wf = true) (w3 : (Lit.int .u64 z3).wf = true) (w4 : (Lit.int .u64 z4).wf = true) :
    DataW.Trod enc P w base spare held t (.agg #[.int .u64 z0, .int .u64 z1, .int .u64 z2, .int .u64 z3, .int .u64 z4]) (.agg [.lit (.int .u64 z0), .lit (.int .u64 z1), .lit (.int .u64 z2), .lit (.int .u64 z3), .lit (.int .u64 z4)]) [] := by
  obtain ⟨o0, k0⟩ := hone_of hone 0 f0 rfl
  have o1 := (hone_of hone 1 f1 rfl).1
  have o2 := (hone_of hone 2 f2 rfl).1
  have o3 := (hone_of hone 3 f3 rfl).1
  have o4 := (hone_of hone 4 f4 rfl).1
  rw [e0] at k0
  have g0 : DataW.trod enc P w base spare held 1 u [.int .u64 z0] = some (.lit (.int .u64 z0), []) := by simp [DataW.trod, hu, w0]
  have g1 : DataW.trod enc P w base spare held 1 u [.int .u64 z1] = some (.lit (.int .u64 z1), []) := by simp [DataW.trod, hu, w1]
  have g2 : DataW.trod enc P w base spare held 1 u [.int .u64 z2] = some (.lit (.int .u64 z2), []) := by simp [DataW.trod, hu, w2]
  have g3 : DataW.trod enc P w base spare held 1 u [.int .u64 z3] = some (.lit (.int .u64 z3), []) := by simp [DataW.trod, hu, w3]
  have g4 : DataW.trod enc P w base spare held 1 u [.int .u64 z4] = some (.lit (.int .u64 z4), []) := by simp [DataW.trod, hu, w4]
  have := trod_struct_mk (enc := enc) (w := w) (base := base) (spare := spare) (held := held) (n := 1) (cs := [.int .u64 z0, .int .u64 z1, .int .u64 z2, .int .u64 z3, .int .u64 z4]) (xs := [(.lit (.int .u64 z0), []), (.lit (.int .u64 z1), []), (.lit (.int .u64 z2), []), (.lit (.int .u64 z3), []), (.lit (.int .u64 z4), [])]) hs (by simp [hC]) (by simp [e0, e1, e2, e3, e4, o0, o1, o2, o3, o4, k0, g0, g1, g2, g3, g4])
  exact ⟨_, by simpa [Value.cells] using this⟩
end

end Go.Proofs.YtkcpgcaccgahaaaGreatDoor
