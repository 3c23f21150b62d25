/- An entry by value as an argument, opened and shut. No function of the program. -/
import Derived.Test.YtnhnkfdhkifahaaGreatDoorCidArg
import Derived.Deep.Slices
import Derived.OpenShut
namespace Go.Proofs.YtnhnkfdhkifahaaGreatDoor
open Go.Joins Go.Deep Go.RowKit Go.ChangeShapes Go.WideShapes Go.ChangeAt Go.WideMaps Go.WideElems

/-- impl.Entry. -/
structure EntV where
  v : Nat
  codec : Nat
  code : Nat
  s : ByteArray
  off : Nat
section
variable {H : Type} {enc : TypeId × Value → H} {w : World} {base : Nat} {spare : Nat → Bool} {held : Bool}

def ventD (e : EntV) : DataW H := .agg [.agg [.lit (.int .u64 e.v), .lit (.int .u64 e.codec), .lit (.int .u64 e.code), .lit (.string e.s.data.toList)], .lit (.int .u64 e.off)]
def ventC (e : EntV) : List Value := [.int .u64 e.v, .int .u64 e.codec, .int .u64 e.code, .string e.s, .int .u64 e.off]
def EntV.wf (e : EntV) : Prop := (e.v < 18446744073709551616 ∧ e.codec < 18446744073709551616 ∧ e.code < 18446744073709551616 ∧ e.s.size ≤ maxLen) ∧ e.off < 18446744073709551616
theorem vent_shape : ∃ f0 f1 : Field, Tryz.prog.underlying 26 = some (.struct #[f0, f1]) ∧ f0.type = 24 ∧ f0.offset = 0 ∧ f1.type = 22 ∧ f1.offset = 4 := ⟨_, _, Tryz.underlying26, rfl, rfl, rfl, rfl⟩
theorem vcid_shape : ∃ f0 f1 f2 f3 : Field, Tryz.prog.underlying 24 = some (.struct #[f0, f1, f2, f3]) ∧ (f0.type = 22 ∧ f0.offset = 0) ∧ (f1.type = 22 ∧ f1.offset = 1) ∧ (f2.type = 22 ∧ f2.offset = 2) ∧ f3.type = 9 ∧ f3.offset = 3 := ⟨_, _, _, _, Tryz.underlying24, ⟨rfl, rfl⟩, ⟨rfl, rfl⟩, ⟨rfl, rfl⟩, rfl, rfl⟩
theorem vent_five : Tryz.prog.cellsOf 26 = 5 := by kernel_rfl
theorem vcid_four : Tryz.prog.cellsOf 24 = 4 := by kernel_rfl
theorem vu64_one : Tryz.prog.cellsOf 22 = 1 := by kernel_rfl
theorem vstr_one : Tryz.prog.cellsOf 9 = 1 := by kernel_rfl
theorem vlist5 {l : List Value} (h : l.length = 5) : ∃ a b c d e, l = [a, b, c, d, e] := by
  match l, h with
  | [a, b, c, d, e], _ => exact ⟨a, b, c, d, e, rfl⟩
theorem vnat_u64 {z : Int} (h : (Lit.int .u64 z).wf = true) : ∃ a : Nat, z = (a : Int) ∧ a < 18446744073709551616 := by
  have b := bounds_u64 h
  obtain ⟨a, rfl⟩ := Int.eq_ofNat_of_zero_le b.1
  exact ⟨a, rfl, by omega⟩
theorem vwf_nat {a : Nat} (h : a < 18446744073709551616) : (Lit.int .u64 (a : Int)).wf = true := by
  have h1 : IntKind.u64.min = 0 := rfl
  have h2 : IntKind.u64.max = 18446744073709551615 := rfl
  simp only [Lit.wf, h1, h2, Bool.and_eq_true, decide_eq_true_eq]
  omega

/-- An entry, opened. -/
theorem vopen_ent {n : Nat} {cs : List Value} {x : DataW H × List MemPlace} (h : DataW.trod enc Tryz.prog w base spare held n 26 cs = some x) : ∃ e : EntV, cs = ventC e ∧ x = (ventD e, []) ∧ e.wf := by
  obtain ⟨f0, f1, hs, e0, o0, e1, o1⟩ := vent_shape
  obtain ⟨y0, y1, m, rfl, hl, h0, h1⟩ := trod_struct2 hs h
  rw [vent_five] at hl
  obtain ⟨c0, c1, c2, c3, c4, rfl⟩ := vlist5 hl
  rw [e0, o0, vcid_four] at h0
  rw [e1, o1, vu64_one] at h1
  simp only [List.take, List.drop] at h0 h1
  obtain ⟨g0, g1, g2, g3, hs2, ⟨a0, b0⟩, ⟨a1, b1⟩, ⟨a2, b2⟩, a3, b3⟩ := vcid_shape
  obtain ⟨x0, x1, x2, x3, m2, rfl, _, k0, k1, k2, k3⟩ := trod_struct4 hs2 h0
  rw [a0, b0, vu64_one] at k0
  rw [a1, b1, vu64_one] at k1
  rw [a2, b2, vu64_one] at k2
  rw [a3, b3, vstr_one] at k3
  simp only [List.take, List.drop] at k0 k1 k2 k3
  obtain ⟨z0, q0, rfl, w0⟩ := DataW.trod_int Tryz.underlying22 k0
  obtain ⟨z1, q1, rfl, w1⟩ := DataW.trod_int Tryz.underlying22 k1
  obtain ⟨z2, q2, rfl, w2⟩ := DataW.trod_int Tryz.underlying22 k2
  obtain ⟨s, q3, rfl, w3⟩ := DataW.trod_string Tryz.underlying9 k3
  obtain ⟨z4, q4, rfl, w4⟩ := DataW.trod_int Tryz.underlying22 h1
  simp only [List.cons.injEq, and_true] at q0 q1 q2 q3 q4
  subst q0 q1 q2 q3 q4
  obtain ⟨v, rfl, l0⟩ := vnat_u64 w0
  obtain ⟨codec, rfl, l1⟩ := vnat_u64 w1
  obtain ⟨code, rfl, l2⟩ := vnat_u64 w2
  obtain ⟨off, rfl, l4⟩ := vnat_u64 w4
  exact ⟨⟨v, codec, code, s, off⟩, rfl, rfl, ⟨l0, l1, l2, w3⟩, l4⟩
/-- An entry, shut. -/
theorem vshut_ent (e : EntV) (h : e.wf) : DataW.trod enc Tryz.prog w base spare held 3 26 (ventC e) = some (ventD e, []) := by
  obtain ⟨f0, f1, hs, e0, o0, e1, o1⟩ := vent_shape
  obtain ⟨g0, g1, g2, g3, hs2, ⟨a0, b0⟩, ⟨a1, b1⟩, ⟨a2, b2⟩, a3, b3⟩ := vcid_shape
  obtain ⟨⟨l0, l1, l2, l3⟩, l4⟩ := h
  have k0 : DataW.trod enc Tryz.prog w base spare held 1 22 [.int .u64 e.v] = some (.lit (.int .u64 e.v), []) := by simp [DataW.trod, Tryz.underlying22, vwf_nat l0]
  have k1 : DataW.trod enc Tryz.prog w base spare held 1 22 [.int .u64 e.codec] = some (.lit (.int .u64 e.codec), []) := by simp [DataW.trod, Tryz.underlying22, vwf_nat l1]
  have k2 : DataW.trod enc Tryz.prog w base spare held 1 22 [.int .u64 e.code] = some (.lit (.int .u64 e.code), []) := by simp [DataW.trod, Tryz.underlying22, vwf_nat l2]
  have k3 : DataW.trod enc Tryz.prog w base spare held 1 9 [.string e.s] = some (.lit (.string e.s.data.toList), []) := by simp [DataW.trod, Tryz.underlying9, l3]
  have k4 : DataW.trod enc Tryz.prog w base spare held 2 22 [.int .u64 e.off] = some (.lit (.int .u64 e.off), []) := by simp [DataW.trod, Tryz.underlying22, vwf_nat l4]
  have hC := trod_struct4_mk (enc := enc) (w := w) (base := base) (spare := spare) (held := held) (n := 1) (cs := [.int .u64 e.v, .int .u64 e.codec, .int .u64 e.code, .string e.s]) hs2 (by rw [vcid_four]; rfl)
    (by rw [a0, b0, vu64_one]; exact k0) (by rw [a1, b1, vu64_one]; exact k1) (by rw [a2, b2, vu64_one]; exact k2) (by rw [a3, b3, vstr_one]; exact k3)
  have hE := trod_struct2_mk (enc := enc) (w := w) (base := base) (spare := spare) (held := held) (n := 2) (cs := ventC e) hs (by rw [vent_five]; rfl)
    (by rw [e0, o0, vcid_four]; exact hC) (by rw [e1, o1, vu64_one]; exact k4)
  exact hE
set_option maxRecDepth 100000 in
theorem open_entv {r : Reach} {b0 : Nat} {v : Value} {d : DataW H} {p : List MemPlace} (hv : Value.okWide Tryz.prog w r b0 26 v) (h : DataW.Trod enc Tryz.prog w base spare held 26 v d p) :
    ∃ e : EntV, v = .agg #[.int .u64 e.v, .int .u64 e.codec, .int .u64 e.code, .string e.s, .int .u64 e.off] ∧ d = ventD e ∧ p = [] ∧ e.wf := by
  obtain ⟨f0, f1, hs, _⟩ := vent_shape
  obtain ⟨cs, rfl, _⟩ := okWide_struct hs hv
  obtain ⟨fuel, hf⟩ := h
  obtain ⟨e, hcs, hx, hwf⟩ := vopen_ent hf
  simp only [Prod.mk.injEq] at hx
  refine ⟨e, ?_, hx.1, hx.2, hwf⟩
  have h1 : cs.toList = ventC e := by simpa [Value.cells] using hcs
  have h2 : cs = (ventC e).toArray := by rw [← h1]
  rw [h2]; rfl
set_option maxRecDepth 100000 in
theorem shut_entv {e : EntV} (h : e.wf) : DataW.Trod enc Tryz.prog w base spare held 26 (.agg #[.int .u64 e.v, .int .u64 e.codec, .int .u64 e.code, .string e.s, .int .u64 e.off]) (ventD e) [] :=
  ⟨3, vshut_ent e h⟩
end

end Go.Proofs.YtnhnkfdhkifahaaGreatDoor
