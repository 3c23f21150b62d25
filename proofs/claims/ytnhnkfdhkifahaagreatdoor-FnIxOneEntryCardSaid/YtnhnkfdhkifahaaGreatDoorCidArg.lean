/- An identifier by value as an argument, opened and shut. No function of the program. -/
import Derived.Test.YtnhnkfdhkifahaaGreatDoorBase
import Derived.Lib.SmallJoins
import Derived.OpenShut
namespace Go.Proofs.YtnhnkfdhkifahaaGreatDoor
open Go.Joins Go.Deep Go.RowKit Go.ChangeShapes Go.WideShapes Go.ChangeAt Go.WideMaps Go.WideElems

section
variable {H : Type} {enc : TypeId × Value → H} {P : Program} {w : World} {base : Nat} {spare : Nat → Bool} {held : Bool}

theorem open_cid {r : Reach} {b0 : Nat} {t u st : TypeId} {f0 f1 f2 f3 : Field} {v : Value} {d : DataW H} {p : List MemPlace} (hs : P.underlying t = some (.struct #[f0, f1, f2, f3])) (hone : oneCellFields P #[f0, f1, f2, f3] = true) (hC : P.cellsOf t = 4)
    (hu : P.underlying u = some (.int .u64)) (hst : P.underlying st = some .string) (e0 : f0.type = u) (e1 : f1.type = u) (e2 : f2.type = u) (e3 : f3.type = st)
    (hv : Value.okWide P w r b0 t v) (h : DataW.Trod enc P w base spare held t v d p) :
    ∃ (z0 z1 z2 : Int) (s : ByteArray), v = .agg #[.int .u64 z0, .int .u64 z1, .int .u64 z2, .string s] ∧ d = .agg [.lit (.int .u64 z0), .lit (.int .u64 z1), .lit (.int .u64 z2), .lit (.string s.data.toList)] ∧ p = [] ∧
      (Lit.int .u64 z0).wf = true ∧ (Lit.int .u64 z1).wf = true ∧ (Lit.int .u64 z2).wf = true ∧ s.size ≤ maxLen := by
  obtain ⟨v0, v1, v2, v3, y0, y1, y2, y3, n, rfl, rfl, rfl, h0, h1, h2, h3⟩ := open_agg4 hs hone hC hv h
  rw [e0] at h0
  rw [e1] at h1
  rw [e2] at h2
  rw [e3] at h3
  obtain ⟨z0, q0, rfl, w0⟩ := DataW.trod_int hu h0
  obtain ⟨z1, q1, rfl, w1⟩ := DataW.trod_int hu h1
  obtain ⟨z2, q2, rfl, w2⟩ := DataW.trod_int hu h2
  obtain ⟨s, q3, rfl, w3⟩ := DataW.trod_string hst h3
  simp at q0 q1 q2 q3
  subst q0 q1 q2 q3
  exact ⟨z0, z1, z2, s, rfl, rfl, rfl, w0, w1, w2, w3⟩
theorem shut_cid {t u st : TypeId} {f0 f1 f2 f3 : Field} {z0 z1 z2 : Int} {s : ByteArray} (hs : P.underlying t = some (.struct #[f0, f1, f2, f3])) (hone : oneCellFields P #[f0, f1, f2, f3] = true) (hC : P.cellsOf t = 4)
    (hu : P.underlying u = some (.int .u64)) (hst : P.underlying st = some .string) (e0 : f0.type = u) (e1 : f1.type = u) (e2 : f2.type = u) (e3 : f3.type = st)
    (w0 : (Lit.int .u64 z0).wf = true) (w1 : (Lit.int .u64 z1).wf = true) (w2 : (Lit.int .u64 z2).wf = true) (w3 : s.size ≤ maxLen) :
    DataW.Trod enc P w base spare held t (.agg #[.int .u64 z0, .int .u64 z1, .int .u64 z2, .string s]) (.agg [.lit (.int .u64 z0), .lit (.int .u64 z1), .lit (.int .u64 z2), .lit (.string s.data.toList)]) [] := by
  have g0 : ∃ n, DataW.trod enc P w base spare held n f0.type [.int .u64 z0] = some (.lit (.int .u64 z0), []) := ⟨1, by simp [DataW.trod, e0, hu, w0]⟩
  have g1 : ∃ n, DataW.trod enc P w base spare held n f1.type [.int .u64 z1] = some (.lit (.int .u64 z1), []) := ⟨1, by simp [DataW.trod, e1, hu, w1]⟩
  have g2 : ∃ n, DataW.trod enc P w base spare held n f2.type [.int .u64 z2] = some (.lit (.int .u64 z2), []) := ⟨1, by simp [DataW.trod, e2, hu, w2]⟩
  have g3 : ∃ n, DataW.trod enc P w base spare held n f3.type [.string s] = some (.lit (.string s.data.toList), []) := ⟨1, by simp [DataW.trod, e3, hst, w3]⟩
  exact shut_agg4 hs hone hC g0 g1 g2 g3
end

end Go.Proofs.YtnhnkfdhkifahaaGreatDoor
