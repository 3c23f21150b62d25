/- A row of digest records: made empty, one appended. -/
import Derived.Test.YtnhnkfdhkifahaaGreatDoorDigWr
namespace Go.Proofs.YtnhnkfdhkifahaaGreatDoor
open Go.RowKit

theorem info_dig : (Tryz.prog.info? 146).map (fun i => (i.zero, i.size, i.bytes)) = some (some (.agg #[.slice none 0 0, .int .u64 0]), 2, 32) := by kernel_rfl
theorem mkDig0 (W : World) : (Instr.makeSlice 143 (.int .i64 0) (.int .i64 0)).run Tryz.prog W = .ok (.slice (some ⟨W.heap.size, 0, none⟩) 0 0) (W.alloc (.cells #[] 146)) := by
  obtain ⟨i, hi, hz, hs, hb⟩ := info_parts info_dig
  have h := run_make (P := Tryz.prog) W 143 146 i _ Tryz.underlying143 hi hz .i64 .i64 0 0 (by omega) (by omega) (by rw [hb]; omega) (by omega)
  simp only [hs] at h
  have hm : madeCells (Value.cells (.agg #[.slice none 0 0, .int .u64 0])) (Int.toNat 0 * 2) = #[] := by rw [show Int.toNat 0 = 0 from rfl]; simp [madeCells]
  rw [hm] at h
  exact h
theorem zeroDigs (w : World) : (zeroValue 143).run Tryz.prog w = .ok (.slice none 0 0) w := by kernel_rfl
/-- An append of a record to an empty row without room. -/
theorem appDig (w : World) (g gx n c off : Nat) (A : Option Addr) (hg : w.heap[g]? = some (.cells #[] 146 (0, 0))) (hx : w.heap[gx]? = some (.cells #[.slice A n c, .int .u64 off] 146 (0, 0))) :
    ∃ ga cap' w', (Builtin.append_ #[143, 143] 143 #[.slice (some ⟨g, 0, none⟩) 0 0, .slice (some ⟨gx, 0, none⟩) 1 1]).run Tryz.prog w = .ok (.slice (some ⟨ga, 0, none⟩) 1 cap') w'
      ∧ w'.cell? ⟨ga, 0, none⟩ = some (.slice A n c) ∧ w'.cell? ⟨ga, 1, none⟩ = some (.int .u64 off) ∧ w.heap.size ≤ w'.heap.size ∧ Below g w w' ∧ ∀ j, j < w.heap.size → j ≠ g → w'.heap[j]? = w.heap[j]? := by
  obtain ⟨i, hi, hz, hs, hby⟩ := info_parts info_dig
  have hlt := (Array.getElem?_eq_some_iff.1 hg).1
  obtain ⟨v', w', hr, ho, hgr, _⟩ := run_append_own (P := Tryz.prog) w g 143 143 146 i _ 2 32 Tryz.underlying143 hi hz hs hby rfl (by omega) (.slice (some ⟨g, 0, none⟩) 0 0) 0 [] ⟨rfl, .inr ⟨g, 0, _, rfl, Nat.le_refl _, hg, Nat.zero_le _, by unfold maxLen; omega, rfl, rfl⟩⟩ ⟨gx, 0, none⟩ 1 1 [.slice A n c, .int .u64 off] rfl
    (fun j u hj => by
      rw [add_plain, Nat.zero_add, blk_cell hx]
      match j, hj with
      | 0, hj => exact hj
      | 1, hj => exact hj) (fun u hu => by simp only [List.mem_cons, List.not_mem_nil, or_false] at hu; rcases hu with rfl | rfl <;> rfl) (by unfold maxLen; omega) (by omega) (by omega)
  rcases ho.2 with ⟨_, h0⟩ | ⟨ga, cap, cur, rfl, _, hb, hle, hm, hsz, ht⟩
  · simp at h0
  · have h2 : ∀ j, j < 2 → cur[j]? = ([Value.slice A n c, .int .u64 off])[j]? := fun j hj => by
      have := congrArg (fun l => l[j]?) ht
      simp only [List.nil_append] at this
      rw [List.getElem?_take, if_pos (by omega)] at this
      simpa using this
    refine ⟨ga, cap, w', hr, ?_, ?_, hgr.size, ⟨hgr.os, hgr.tape, hgr.output, hgr.size, fun j hj => hgr.block j (by omega) (by simp [Value.ownBlock]; omega)⟩, fun j hj hne => hgr.block j hj (by simp [Value.ownBlock]; exact hne)⟩
    · rw [blk_cell hb]; exact h2 0 (by omega)
    · rw [blk_cell hb]; exact h2 1 (by omega)

end Go.Proofs.YtnhnkfdhkifahaaGreatDoor
