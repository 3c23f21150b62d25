/- A slice of entries as an argument, opened and shut. No function of the program. -/
import Derived.Test.YtgjocdnpephcgaaGreatDoorCidArg
import Derived.Test.YtgjocdnpephcgaaGreatDoorIxA
import Derived.Deep.Slices
namespace Go.Proofs.YtgjocdnpephcgaaGreatDoor
open Go.Joins Go.Deep Go.RowKit Go.ChangeShapes Go.WideShapes Go.ChangeAt Go.WideMaps Go.WideElems

section
variable {H : Type} {enc : TypeId × Value → H} {w : World} {base : Nat} {spare : Nat → Bool} {held : Bool}

def entD (e : Ent) : DataW H := .agg [.agg [.lit (.int .u64 e.v), .lit (.int .u64 e.codec), .lit (.int .u64 e.code), .lit (.string e.s.data.toList)], .lit (.int .u64 e.off)]
def entC (e : Ent) : List Value := [.int .u64 e.v, .int .u64 e.codec, .int .u64 e.code, .string e.s, .int .u64 e.off]
def Ent.wf (e : Ent) : Prop := (e.v < 18446744073709551616 ∧ e.codec < 18446744073709551616 ∧ e.code < 18446744073709551616 ∧ e.s.size ≤ maxLen) ∧ e.off < 18446744073709551616
instance : Inhabited Ent := ⟨⟨0, 0, 0, ⟨#[]⟩, 0⟩⟩
theorem ent_shape : ∃ f0 f1 : Field, Tryz.prog.underlying 38 = some (.struct #[f0, f1]) ∧ f0.type = 25 ∧ f0.offset = 0 ∧ f1.type = 23 ∧ f1.offset = 4 := ⟨_, _, Tryz.underlying38, rfl, rfl, rfl, rfl⟩
theorem cid_shape : ∃ f0 f1 f2 f3 : Field, Tryz.prog.underlying 25 = some (.struct #[f0, f1, f2, f3]) ∧ (f0.type = 23 ∧ f0.offset = 0) ∧ (f1.type = 23 ∧ f1.offset = 1) ∧ (f2.type = 23 ∧ f2.offset = 2) ∧ f3.type = 9 ∧ f3.offset = 3 := ⟨_, _, _, _, Tryz.underlying25, ⟨rfl, rfl⟩, ⟨rfl, rfl⟩, ⟨rfl, rfl⟩, rfl, rfl⟩
theorem ent_five : Tryz.prog.cellsOf 38 = 5 := by kernel_rfl
theorem cid_four : Tryz.prog.cellsOf 25 = 4 := by kernel_rfl
theorem u64_one : Tryz.prog.cellsOf 23 = 1 := by kernel_rfl
theorem str_one : Tryz.prog.cellsOf 9 = 1 := by kernel_rfl
theorem list5 {l : List Value} (h : l.length = 5) : ∃ a b c d e, l = [a, b, c, d, e] := by
  match l, h with
  | [a, b, c, d, e], _ => exact ⟨a, b, c, d, e, rfl⟩
theorem nat_u64 {z : Int} (h : (Lit.int .u64 z).wf = true) : ∃ a : Nat, z = (a : Int) ∧ a < 18446744073709551616 := by
  have b := bounds_u64 h
  obtain ⟨a, rfl⟩ := Int.eq_ofNat_of_zero_le b.1
  exact ⟨a, rfl, by omega⟩
theorem wf_nat {a : Nat} (h : a < 18446744073709551616) : (Lit.int .u64 (a : Int)).wf = true := by
  have h1 : IntKind.u64.min = 0 := rfl
  have h2 : IntKind.u64.max = 18446744073709551615 := rfl
  simp only [Lit.wf, h1, h2, Bool.and_eq_true, decide_eq_true_eq]
  omega

/-- An entry, opened. -/
theorem open_ent {n : Nat} {cs : List Value} {x : DataW H × List MemPlace} (h : DataW.trod enc Tryz.prog w base spare held n 38 cs = some x) : ∃ e : Ent, cs = entC e ∧ x = (entD e, []) ∧ e.wf := by
  obtain ⟨f0, f1, hs, e0, o0, e1, o1⟩ := ent_shape
  obtain ⟨y0, y1, m, rfl, hl, h0, h1⟩ := trod_struct2 hs h
  rw [ent_five] at hl
  obtain ⟨c0, c1, c2, c3, c4, rfl⟩ := list5 hl
  rw [e0, o0, cid_four] at h0
  rw [e1, o1, u64_one] at h1
  simp only [List.take, List.drop] at h0 h1
  obtain ⟨g0, g1, g2, g3, hs2, ⟨a0, b0⟩, ⟨a1, b1⟩, ⟨a2, b2⟩, a3, b3⟩ := cid_shape
  obtain ⟨x0, x1, x2, x3, m2, rfl, _, k0, k1, k2, k3⟩ := trod_struct4 hs2 h0
  rw [a0, b0, u64_one] at k0
  rw [a1, b1, u64_one] at k1
  rw [a2, b2, u64_one] at k2
  rw [a3, b3, str_one] at k3
  simp only [List.take, List.drop] at k0 k1 k2 k3
  obtain ⟨z0, q0, rfl, w0⟩ := DataW.trod_int Tryz.underlying23 k0
  obtain ⟨z1, q1, rfl, w1⟩ := DataW.trod_int Tryz.underlying23 k1
  obtain ⟨z2, q2, rfl, w2⟩ := DataW.trod_int Tryz.underlying23 k2
  obtain ⟨s, q3, rfl, w3⟩ := DataW.trod_string Tryz.underlying9 k3
  obtain ⟨z4, q4, rfl, w4⟩ := DataW.trod_int Tryz.underlying23 h1
  simp only [List.cons.injEq, and_true] at q0 q1 q2 q3 q4
  subst q0 q1 q2 q3 q4
  obtain ⟨v, rfl, l0⟩ := nat_u64 w0
  obtain ⟨codec, rfl, l1⟩ := nat_u64 w1
  obtain ⟨code, rfl, l2⟩ := nat_u64 w2
  obtain ⟨off, rfl, l4⟩ := nat_u64 w4
  exact ⟨⟨v, codec, code, s, off⟩, rfl, rfl, ⟨l0, l1, l2, w3⟩, l4⟩
/-- An entry, shut. -/
theorem shut_ent (e : Ent) (h : e.wf) : DataW.trod enc Tryz.prog w base spare held 3 38 (entC e) = some (entD e, []) := by
  obtain ⟨f0, f1, hs, e0, o0, e1, o1⟩ := ent_shape
  obtain ⟨g0, g1, g2, g3, hs2, ⟨a0, b0⟩, ⟨a1, b1⟩, ⟨a2, b2⟩, a3, b3⟩ := cid_shape
  obtain ⟨⟨l0, l1, l2, l3⟩, l4⟩ := h
  have k0 : DataW.trod enc Tryz.prog w base spare held 1 23 [.int .u64 e.v] = some (.lit (.int .u64 e.v), []) := by simp [DataW.trod, Tryz.underlying23, wf_nat l0]
  have k1 : DataW.trod enc Tryz.prog w base spare held 1 23 [.int .u64 e.codec] = some (.lit (.int .u64 e.codec), []) := by simp [DataW.trod, Tryz.underlying23, wf_nat l1]
  have k2 : DataW.trod enc Tryz.prog w base spare held 1 23 [.int .u64 e.code] = some (.lit (.int .u64 e.code), []) := by simp [DataW.trod, Tryz.underlying23, wf_nat l2]
  have k3 : DataW.trod enc Tryz.prog w base spare held 1 9 [.string e.s] = some (.lit (.string e.s.data.toList), []) := by simp [DataW.trod, Tryz.underlying9, l3]
  have k4 : DataW.trod enc Tryz.prog w base spare held 2 23 [.int .u64 e.off] = some (.lit (.int .u64 e.off), []) := by simp [DataW.trod, Tryz.underlying23, wf_nat l4]
  have hC := trod_struct4_mk (enc := enc) (w := w) (base := base) (spare := spare) (held := held) (n := 1) (cs := [.int .u64 e.v, .int .u64 e.codec, .int .u64 e.code, .string e.s]) hs2 (by rw [cid_four]; rfl)
    (by rw [a0, b0, u64_one]; exact k0) (by rw [a1, b1, u64_one]; exact k1) (by rw [a2, b2, u64_one]; exact k2) (by rw [a3, b3, str_one]; exact k3)
  have hE := trod_struct2_mk (enc := enc) (w := w) (base := base) (spare := spare) (held := held) (n := 2) (cs := entC e) hs (by rw [ent_five]; rfl)
    (by rw [e0, o0, cid_four]; exact hC) (by rw [e1, o1, u64_one]; exact k4)
  exact hE
theorem entC_get (e : Ent) : ∀ j, j < 5 → (entC e)[j]? = some (e.cell j)
  | 0, _ => rfl
  | 1, _ => rfl
  | 2, _ => rfl
  | 3, _ => rfl
  | 4, _ => rfl

set_option maxRecDepth 100000 in
/-- A slice of entries, opened; and how it reads again. -/
theorem open_ents {r : Reach} {b0 : Nat} {v : Value} {d : DataW H} {p : List MemPlace} (hval : Value.okWide Tryz.prog w r b0 22 v) (h : DataW.Trod enc Tryz.prog w 0 (fun _ => true) true 22 v d p) :
    ∃ A n c es, v = .slice A n c ∧ RdE w A n c es ∧ (∀ e ∈ es, e.wf) ∧ ∀ w' : World, Below w.heap.size w w' → ∃ p', DataW.Trod enc Tryz.prog w' 0 (fun b => decide (b < w.heap.size)) true 22 (.slice A n c) d p' := by
  obtain ⟨A, n, c, rfl⟩ := okWide_slice Tryz.underlying22 hval
  obtain ⟨fuel, hf⟩ := h
  rcases open_slice Tryz.underlying22 hf with ⟨hcs, hx⟩ | ⟨a, len, cap, m, k, D, Pl, hcs, _, hl, hm, hmm, hx, hel⟩
  · simp only [Value.cells, List.cons.injEq, and_true, Value.slice.injEq] at hcs
    obtain ⟨rfl, rfl, rfl⟩ := hcs
    simp only [Prod.mk.injEq] at hx
    obtain ⟨rfl, rfl⟩ := hx
    exact ⟨none, 0, 0, [], rfl, ⟨rfl, Nat.le_refl _, by omega, fun h0 => absurd h0 (Nat.lt_irrefl _)⟩, fun e he => by simp at he, fun w' _ => ⟨[], shut_slice_nil Tryz.underlying22⟩⟩
  · simp only [Value.cells, List.cons.injEq, and_true, Value.slice.injEq] at hcs
    obtain ⟨rfl, rfl, rfl⟩ := hcs
    simp only [if_true] at hmm
    subst hmm
    simp only [Prod.mk.injEq] at hx
    obtain ⟨rfl, -⟩ := hx
    rw [ent_five] at hel
    obtain ⟨E, hE⟩ := choose_lt (α := Ent) (p := fun i e => e.wf ∧ D i = entD e ∧ Pl i = [] ∧ ∀ j, j < 5 → w.cell? ((a.add (i * 5)).add j) = some (e.cell j)) (fun i hi => by
      obtain ⟨cs', h1, h2⟩ := hel i hi
      obtain ⟨e, rfl, hxe, hwf⟩ := open_ent h2
      simp only [Prod.mk.injEq] at hxe
      obtain ⟨_, _, h3⟩ := World.cells?_some h1
      exact ⟨e, hwf, hxe.1, hxe.2, fun j hj => (h3 j hj).trans (entC_get e j hj)⟩)
    have hsp : 0 < m → a.spot = none ∧ a.block < w.heap.size := fun h0 => by
      have h1 := (hE 0 h0).2.2.2 0 (by omega)
      rw [Nat.zero_mul] at h1
      have h2 : (a.add 0).add 0 = a := by simp [Addr.add]
      rw [h2] at h1
      exact ⟨World.cell?_spot h1, World.block_lt_of_cell? w _ h1⟩
    refine ⟨some a, n, m, (List.range n).map E, rfl, ⟨by simp, hl, hm, fun h0 => ?_⟩, fun e he => ?_, fun w' hb => ?_⟩
    · obtain ⟨g, o, sp⟩ := a
      obtain rfl : sp = none := (hsp (by omega)).1
      refine ⟨g, o, rfl, fun i hi j hj => ?_⟩
      simp only [List.length_map, List.length_range] at hi
      have h2 := (hE i (by omega)).2.2.2 j hj
      rw [add_plain, add_plain] at h2
      rw [h2]
      simp
    · obtain ⟨i, hi, rfl⟩ := List.mem_map.1 he
      exact (hE i (by have := List.mem_range.1 hi; omega)).1
    · have hrd : ∀ i, i < m → ∃ cs n, w'.cells? 0 (a.add (i * Tryz.prog.cellsOf 38)) (Tryz.prog.cellsOf 38) = some cs ∧ DataW.trod enc Tryz.prog w' 0 (fun b => decide (b < w.heap.size)) true n 38 cs = some (D i, Pl i) := fun i hi => by
        obtain ⟨hwf, hD, hP, hc⟩ := hE i hi
        obtain ⟨g, o, sp⟩ := a
        obtain rfl : sp = none := (hsp (by omega)).1
        refine ⟨entC (E i), 3, ?_, by rw [hD, hP]; exact shut_ent _ hwf⟩
        rw [ent_five, add_plain]
        refine cells?_of (Nat.zero_le _) rfl fun j hj => ?_
        have h2 := hc j hj
        rw [add_plain, add_plain] at h2
        rw [cell_bel hb h2, entC_get _ _ hj]
      by_cases h0 : a.block < w.heap.size
      · exact ⟨_, shut_slice_whole Tryz.underlying22 (Nat.zero_le _) hl hm (decide_eq_true h0) D Pl hrd⟩
      · have hm0 : m = 0 := by
          rcases Nat.eq_zero_or_pos m with h1 | h1
          · exact h1
          · exact absurd (hsp h1).2 h0
        subst hm0
        obtain rfl : n = 0 := by omega
        exact ⟨_, shut_slice Tryz.underlying22 (Nat.zero_le _) hl hm (decide_eq_false h0) D Pl (fun i hi => absurd hi (Nat.not_lt_zero _))⟩
end

end Go.Proofs.YtgjocdnpephcgaaGreatDoor
