/- The walks of the functions that write a multihash. -/
import Derived.Test.YtkcpgcaccgahaaaGreatDoorUvA
import Derived.Test.YtkcpgcaccgahaaaGreatDoorMathA
namespace Go.Proofs.YtkcpgcaccgahaaaGreatDoor
open Go.RowKit

theorem setCells_append (g : Nat) : ∀ (xs ys : List Value) (o : Nat) (w : World), w.setCells g o (xs ++ ys) = (w.setCells g o xs).setCells g (o + xs.length) ys
  | [], _, _, _ => rfl
  | x :: xs, ys, o, w => by
    rw [List.cons_append, World.setCells, setCells_append g xs ys (o + 1), World.setCells, List.length_cons, show o + 1 + xs.length = o + (xs.length + 1) by omega]
theorem byteCells_append (xs ys : List UInt8) : Lib.byteCells (xs ++ ys) = Lib.byteCells xs ++ Lib.byteCells ys := by simp [Lib.byteCells]

theorem setCells_cell_some (g : Nat) (vs : List Value) (o : Nat) (w : World) (j : Nat) (h : (w.cell? ⟨g, j, none⟩).isSome = true) (hall : ∀ i, i < vs.length → (w.cell? ⟨g, o + i, none⟩).isSome = true) : ((w.setCells g o vs).cell? ⟨g, j, none⟩).isSome = true := by
  by_cases hj : o ≤ j ∧ j < o + vs.length
  · obtain ⟨i, rfl⟩ : ∃ i, j = o + i := ⟨j - o, by omega⟩
    rw [World.cell?_setCells_in g vs o w hall i (by omega)]; rfl
  · rw [World.cell?_setCells_out g vs o w _ (fun _ _ => by simp; omega)]; exact h



















/-- 'b[m:]' of a row of the call's own, short of its end. -/
theorem cut_own (t : TypeId) (kl : IntKind) (ht : Tryz.prog.underlying t = some (.slice 5)) (g n m : Nat) (hm : m < n) (W : World) :
    (Instr.slice t (.slice (some ⟨g, 0, none⟩) n n) (some (.int kl (m : Int))) none none).run Tryz.prog W = .ok (.slice (some ⟨g, m, none⟩) (n - m) (n - m)) W := by
  obtain ⟨i, hi, _, hs, _⟩ := info_parts info_u8
  have hel : Tryz.prog.elem t = 5 := by simp [Program.elem, ht]
  have hu : Tryz.prog.underlying t = some (.slice (Tryz.prog.elem t)) := by rw [hel]; exact ht
  rw [run_slice_l W t _ n n hu kl (m : Int) (Int.natCast_nonneg _) (by omega), hel]
  have hne : ¬ n = m := by omega
  simp [sizeOf, typeInfo, hi, hs, sliced, Result.andThen, hne, add_plain]

/-- 'b[m:]' of a row of the call's own, at its end too. -/
theorem cut_end (t : TypeId) (kl : IntKind) (ht : Tryz.prog.underlying t = some (.slice 5)) (g n m : Nat) (hm : m ≤ n) :
    ∃ o, (m < n → o = m) ∧ ∀ W : World, (Instr.slice t (.slice (some ⟨g, 0, none⟩) n n) (some (.int kl (m : Int))) none none).run Tryz.prog W = .ok (.slice (some ⟨g, o, none⟩) (n - m) (n - m)) W := by
  by_cases h : m < n
  · exact ⟨m, fun _ => rfl, cut_own t kl ht g n m h⟩
  · obtain rfl : m = n := by omega
    refine ⟨0, fun h => by omega, fun W => ?_⟩
    obtain ⟨i, hi, _, hs, _⟩ := info_parts info_u8
    have hel : Tryz.prog.elem t = 5 := by simp [Program.elem, ht]
    have hu : Tryz.prog.underlying t = some (.slice (Tryz.prog.elem t)) := by rw [hel]; exact ht
    rw [run_slice_l W t _ m m hu kl (m : Int) (Int.natCast_nonneg _) (by omega), hel]
    simp [sizeOf, typeInfo, hi, hs, sliced, Result.andThen]

/-- 'copy(dst, src)' of as many bytes. -/
theorem copy_bytes (W : World) (g o n c c' ga oa : Nat) (bs : List UInt8) (hr : RdB W (some ⟨ga, oa, none⟩) n c' bs) (hc : ∀ j, j < n → (W.cell? ⟨g, o + j, none⟩).isSome = true) (hf : ∀ j, j < n → W.frozen? ⟨g, o + j, none⟩ = false) :
    (Builtin.copy_ #[67, 67] 3 #[.slice (some ⟨g, o, none⟩) n c, .slice (some ⟨ga, oa, none⟩) n c']).run Tryz.prog W = .ok (goInt n) (W.setCells g o (Lib.byteCells bs)) := by
  have hl := hr.len
  have h := run_copy_cells (P := Tryz.prog) W 67 67 3 5 g o n c ⟨ga, oa, none⟩ n c' (Lib.byteCells bs) Tryz.underlying67 (by kernel_rfl) (by rw [Lib.byteCells_length, hl]; simp)
    (fun j v hj => by
      have hjl : j < bs.length := by
        have := (List.getElem?_eq_some_iff.1 hj).1
        rwa [Lib.byteCells_length] at this
      obtain ⟨g', o', e, hcell⟩ := hr.lies (by omega)
      have e' := Option.some.inj e
      simp only [Addr.mk.injEq] at e'
      obtain ⟨rfl, rfl, _⟩ := e'
      rw [add_plain, hcell j hjl]
      simp [Lib.byteCells, List.getElem?_eq_getElem hjl] at hj
      rw [hj])
    (fun j hj => hc j (by rw [Lib.byteCells_length] at hj; omega)) (fun j hj => hf j (by rw [Lib.byteCells_length] at hj; omega)) (fun v hv => by
      simp only [Lib.byteCells, List.mem_map] at hv
      obtain ⟨b, _, rfl⟩ := hv
      rfl)
  rw [Lib.byteCells_length, hl] at h
  exact h

theorem copy_bytesA (W : World) (g o n c c' : Nat) (A : Option Addr) (bs : List UInt8) (hr : RdB W A n c' bs) (hc : ∀ j, j < n → (W.cell? ⟨g, o + j, none⟩).isSome = true) (hf : ∀ j, j < n → W.frozen? ⟨g, o + j, none⟩ = false) :
    (Builtin.copy_ #[67, 67] 3 #[.slice (some ⟨g, o, none⟩) n c, .slice A n c']).run Tryz.prog W = .ok (goInt n) (W.setCells g o (Lib.byteCells bs)) := by
  rcases Nat.eq_zero_or_pos n with rfl | hp
  · have hbs : bs = [] := List.eq_nil_of_length_eq_zero hr.len
    subst hbs
    exact run_copy_none W 67 67 3 5 _ _ 0 c 0 c' Tryz.underlying67 (by kernel_rfl) rfl
  · obtain ⟨ga, oa, rfl, _⟩ := hr.lies hp
    exact copy_bytes W g o n c c' ga oa bs hr hc hf




































































































end Go.Proofs.YtkcpgcaccgahaaaGreatDoor
