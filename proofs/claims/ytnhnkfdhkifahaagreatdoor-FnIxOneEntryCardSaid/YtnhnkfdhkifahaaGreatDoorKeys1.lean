/- A key appended to an empty row. Printed by gen-mwmar.py. -/
import Derived.Test.YtnhnkfdhkifahaaGreatDoorMap1
import Derived.Lib.AppendZerosOnto
namespace Go.Proofs.YtnhnkfdhkifahaaGreatDoor
open Go.RowKit

theorem info_k32 : (Tryz.prog.info? 119).map (fun i => (i.zero, i.size, i.bytes)) = some (some (.int .u32 0), 1, 4) := by kernel_rfl
theorem mkKeys32 (W : World) : (Instr.makeSlice 164 (.int .i64 0) (.int .i64 1)).run Tryz.prog W = .ok (.slice (some ⟨W.heap.size, 0, none⟩) 0 1) (W.alloc (.cells #[.int .u32 0] 119)) := by
  obtain ⟨i, hi, hz, hs, hb⟩ := info_parts info_k32
  have h := run_make (P := Tryz.prog) W 164 119 i _ Tryz.underlying164 hi hz .i64 .i64 0 1 (by omega) (by omega) (by rw [hb]; omega) (by omega)
  simp only [hs, Nat.mul_one] at h
  have hm : madeCells (Value.cells (.int .u32 0)) (Int.toNat 1) = #[.int .u32 0] := by rw [show Int.toNat 1 = 1 from rfl]; simp [madeCells, Value.cells]; exact ⟨0, rfl, rfl⟩
  rw [hm] at h
  exact h
/-- An append of a key to an empty row with room for it. -/
theorem appKey32 (w : World) (g gx x : Nat) (hg : w.heap[g]? = some (.cells #[.int .u32 0] 119 (0, 0))) (hx : w.heap[gx]? = some (.cells #[.int .u32 x] 119 (0, 0))) :
    ∃ ga cap' w', (Builtin.append_ #[164, 164] 164 #[.slice (some ⟨g, 0, none⟩) 0 1, .slice (some ⟨gx, 0, none⟩) 1 1]).run Tryz.prog w = .ok (.slice (some ⟨ga, 0, none⟩) 1 cap') w'
      ∧ w'.cell? ⟨ga, 0, none⟩ = some (.int .u32 x) ∧ w.heap.size ≤ w'.heap.size ∧ Below g w w' ∧ ∀ j, j < w.heap.size → j ≠ g → w'.heap[j]? = w.heap[j]? := by
  obtain ⟨i, hi, hz, hs, hby⟩ := info_parts info_k32
  have hlt := (Array.getElem?_eq_some_iff.1 hg).1
  obtain ⟨v', w', hr, ho, hgr, _⟩ := run_append_own (P := Tryz.prog) w g 164 164 119 i _ 1 4 Tryz.underlying164 hi hz hs hby rfl (by omega) (.slice (some ⟨g, 0, none⟩) 0 1) 0 [] ⟨rfl, .inr ⟨g, 1, _, rfl, Nat.le_refl _, hg, Nat.zero_le _, by unfold maxLen; omega, rfl, rfl⟩⟩ ⟨gx, 0, none⟩ 1 1 [.int .u32 x] rfl
    (fun j u hj => by
      match j, hj with
      | 0, hj => simp at hj; subst hj; rw [add_plain, blk_cell hx]; rfl) (fun u hu => by simp at hu; subst hu; rfl) (by unfold maxLen; omega) (by omega) (by omega)
  rcases ho.2 with ⟨_, h0⟩ | ⟨ga, cap, cur, rfl, _, hb, hle, hm, hsz, ht⟩
  · simp at h0
  · refine ⟨ga, cap, w', hr, ?_, hgr.size, ⟨hgr.os, hgr.tape, hgr.output, hgr.size, fun j hj => hgr.block j (by omega) (by simp [Value.ownBlock]; omega)⟩, fun j hj hne => hgr.block j hj (by simp [Value.ownBlock]; exact hne)⟩
    rw [blk_cell hb]
    have h2 : (cur.toList.take 1)[0]? = some (.int .u32 x) := by
      have := congrArg (fun l => l[0]?) ht
      simpa using this
    simpa using h2

theorem info_k64 : (Tryz.prog.info? 22).map (fun i => (i.zero, i.size, i.bytes)) = some (some (.int .u64 0), 1, 8) := by kernel_rfl
theorem mkKeys64 (W : World) : (Instr.makeSlice 138 (.int .i64 0) (.int .i64 1)).run Tryz.prog W = .ok (.slice (some ⟨W.heap.size, 0, none⟩) 0 1) (W.alloc (.cells #[.int .u64 0] 22)) := by
  obtain ⟨i, hi, hz, hs, hb⟩ := info_parts info_k64
  have h := run_make (P := Tryz.prog) W 138 22 i _ Tryz.underlying138 hi hz .i64 .i64 0 1 (by omega) (by omega) (by rw [hb]; omega) (by omega)
  simp only [hs, Nat.mul_one] at h
  have hm : madeCells (Value.cells (.int .u64 0)) (Int.toNat 1) = #[.int .u64 0] := by rw [show Int.toNat 1 = 1 from rfl]; simp [madeCells, Value.cells]; exact ⟨0, rfl, rfl⟩
  rw [hm] at h
  exact h
/-- An append of a key to an empty row with room for it. -/
theorem appKey64 (w : World) (g gx x : Nat) (hg : w.heap[g]? = some (.cells #[.int .u64 0] 22 (0, 0))) (hx : w.heap[gx]? = some (.cells #[.int .u64 x] 22 (0, 0))) :
    ∃ ga cap' w', (Builtin.append_ #[138, 138] 138 #[.slice (some ⟨g, 0, none⟩) 0 1, .slice (some ⟨gx, 0, none⟩) 1 1]).run Tryz.prog w = .ok (.slice (some ⟨ga, 0, none⟩) 1 cap') w'
      ∧ w'.cell? ⟨ga, 0, none⟩ = some (.int .u64 x) ∧ w.heap.size ≤ w'.heap.size ∧ Below g w w' ∧ ∀ j, j < w.heap.size → j ≠ g → w'.heap[j]? = w.heap[j]? := by
  obtain ⟨i, hi, hz, hs, hby⟩ := info_parts info_k64
  have hlt := (Array.getElem?_eq_some_iff.1 hg).1
  obtain ⟨v', w', hr, ho, hgr, _⟩ := run_append_own (P := Tryz.prog) w g 138 138 22 i _ 1 8 Tryz.underlying138 hi hz hs hby rfl (by omega) (.slice (some ⟨g, 0, none⟩) 0 1) 0 [] ⟨rfl, .inr ⟨g, 1, _, rfl, Nat.le_refl _, hg, Nat.zero_le _, by unfold maxLen; omega, rfl, rfl⟩⟩ ⟨gx, 0, none⟩ 1 1 [.int .u64 x] rfl
    (fun j u hj => by
      match j, hj with
      | 0, hj => simp at hj; subst hj; rw [add_plain, blk_cell hx]; rfl) (fun u hu => by simp at hu; subst hu; rfl) (by unfold maxLen; omega) (by omega) (by omega)
  rcases ho.2 with ⟨_, h0⟩ | ⟨ga, cap, cur, rfl, _, hb, hle, hm, hsz, ht⟩
  · simp at h0
  · refine ⟨ga, cap, w', hr, ?_, hgr.size, ⟨hgr.os, hgr.tape, hgr.output, hgr.size, fun j hj => hgr.block j (by omega) (by simp [Value.ownBlock]; omega)⟩, fun j hj hne => hgr.block j hj (by simp [Value.ownBlock]; exact hne)⟩
    rw [blk_cell hb]
    have h2 : (cur.toList.take 1)[0]? = some (.int .u64 x) := by
      have := congrArg (fun l => l[0]?) ht
      simpa using this
    simpa using h2

end Go.Proofs.YtnhnkfdhkifahaaGreatDoor
