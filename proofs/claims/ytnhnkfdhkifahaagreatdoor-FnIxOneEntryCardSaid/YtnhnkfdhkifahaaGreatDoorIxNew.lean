/- The walks of index.New of both kinds, and an append of the first record. -/
import Derived.Test.YtnhnkfdhkifahaaGreatDoorMhLoad2
namespace Go.Proofs.YtnhnkfdhkifahaaGreatDoor
open Go.RowKit
open Go.ChangeMaps (setBlock)

/-- An append of the first record. -/
theorem appRecN (w : World) (gx off : Nat) (S : ByteArray) (hx : w.heap[gx]? = some (.cells #[.string S, .int .u64 off] 48 (0, 0))) :
    ∃ ga cap' w', (Builtin.append_ #[42, 42] 42 #[.slice none 0 0, .slice (some ⟨gx, 0, none⟩) 1 1]).run Tryz.prog w = .ok (.slice (some ⟨ga, 0, none⟩) 1 cap') w'
      ∧ w'.cell? ⟨ga, 0, none⟩ = some (.string S) ∧ w'.cell? ⟨ga, 1, none⟩ = some (.int .u64 off) ∧ Below w.heap.size w w' := by
  obtain ⟨i, hi, hz, hs, hby⟩ := info_parts info_rec
  obtain ⟨v', w', hr, ho, hgr, _⟩ := run_append_own (P := Tryz.prog) w 0 42 42 48 i _ 2 24 Tryz.underlying42 hi hz hs hby rfl (by omega) (.slice none 0 0) 0 [] ⟨rfl, .inl ⟨rfl, rfl⟩⟩ ⟨gx, 0, none⟩ 1 1 [.string S, .int .u64 off] rfl
    (fun j u hj => by
      rw [add_plain, Nat.zero_add, blk_cell hx]
      match j, hj with
      | 0, hj => exact hj
      | 1, hj => exact hj) (fun u hu => by simp only [List.mem_cons, List.not_mem_nil, or_false] at hu; rcases hu with rfl | rfl <;> rfl) (by unfold maxLen; omega) (by omega) (by omega)
  rcases ho.2 with ⟨_, h0⟩ | ⟨ga, cap, cur, rfl, _, hb, hle, hm, hsz, ht⟩
  · simp at h0
  · have h2 : ∀ j, j < 2 → cur[j]? = ([Value.string S, .int .u64 off])[j]? := fun j hj => by
      have := congrArg (fun l => l[j]?) ht
      simp only [List.nil_append] at this
      rw [List.getElem?_take, if_pos (by omega)] at this
      simpa using this
    refine ⟨ga, cap, w', hr, ?_, ?_, ⟨hgr.os, hgr.tape, hgr.output, hgr.size, fun j hj => hgr.block j hj (by simp [Value.ownBlock])⟩⟩
    · rw [blk_cell hb]; exact h2 0 (by omega)
    · rw [blk_cell hb]; exact h2 1 (by omega)

/-- What index.New leaves. -/
def NewI (T : TypeId) (w : World) (e : Ending) (w' : World) : Prop := ∃ p gm, e = .returned (.tuple #[.iface T (.pointer (some ⟨p, 0, none⟩)), .nilIface]) ∧ w.heap.size ≤ p ∧ w.heap.size ≤ gm ∧ w'.cell? ⟨p, 0, none⟩ = some (.map (some gm)) ∧ w'.heap[gm]? = some (.map #[] 0)

set_option maxHeartbeats 4000000 in
set_option maxRecDepth 100000 in
theorem newSorted_calls (w : World) :
    Calls Tryz.prog 13 #[] w fun e w' => e = .returned (.iface 69 (.pointer (some ⟨w.heap.size + 1, 0, none⟩))) ∧ w' = (w.alloc (.map #[] 0)).alloc (.cells #[.map (some w.heap.size)] 68) := by
  have hmap := fun (W : World) => run_makeMap_plain (P := Tryz.prog) W 68
  go_enter Tryz.func13, Tryz.ntmps13
  go_wp2_with fail
  go_ret
  exact ⟨by first | rfl | simp, by first | rfl | simp⟩
set_option maxHeartbeats 4000000 in
set_option maxRecDepth 100000 in
theorem newMhS_calls (w : World) :
    Calls Tryz.prog 14 #[] w fun e w' => e = .returned (.pointer (some ⟨w.heap.size + 1, 0, none⟩)) ∧ w' = (w.alloc (.map #[] 0)).alloc (.cells #[.map (some w.heap.size)] 71) := by
  have hmap := fun (W : World) => run_makeMap_plain (P := Tryz.prog) W 71
  go_enter Tryz.func14, Tryz.ntmps14
  go_wp2_with fail
  go_ret
  exact ⟨by first | rfl | simp, by first | rfl | simp⟩
set_option maxHeartbeats 4000000 in
set_option maxRecDepth 100000 in
theorem newA_calls (w : World) :
    Calls Tryz.prog 10 #[.int .u64 1024] w fun e w' => NewI 69 w e w' ∧ Below w.heap.size w w' := by
  go_enter Tryz.func10, Tryz.ntmps10
  go_wp2_with fail
  refine (newSorted_calls w).mono ?_
  rintro e w1 ⟨rfl, hw1⟩
  have HN : Kp (w1.cell? ⟨w.heap.size + 1, 0, none⟩ = some (.map (some w.heap.size)) ∧ w1.heap[w.heap.size]? = some (.map #[] 0) ∧ Below w.heap.size w w1) := ⟨by rw [hw1]; exact ⟨blk_cell (blk_new2 (w := w) (o := .map #[] 0) (Below.refl _ _)) 0, blk_new (bel_alloc (Below.refl _ _) _), bel_alloc (bel_alloc (Below.refl _ _) _) _⟩⟩
  clear hw1
  go_wp2_with fail
  refine bodyPost_ret (results_tmp2 rfl _ _ _) rfl ?_
  exact ⟨⟨_, _, rfl, Nat.le_succ _, Nat.le_refl _, HN.out.1, HN.out.2.1⟩, HN.out.2.2⟩
set_option maxHeartbeats 4000000 in
set_option maxRecDepth 100000 in
theorem newB_calls (w : World) :
    Calls Tryz.prog 10 #[.int .u64 1025] w fun e w' => NewI 52 w e w' ∧ Below w.heap.size w w' := by
  go_enter Tryz.func10, Tryz.ntmps10
  go_wp2_with fail
  refine (newMhS_calls w).mono ?_
  rintro e w1 ⟨rfl, hw1⟩
  have HN : Kp (w1.cell? ⟨w.heap.size + 1, 0, none⟩ = some (.map (some w.heap.size)) ∧ w1.heap[w.heap.size]? = some (.map #[] 0) ∧ Below w.heap.size w w1) := ⟨by rw [hw1]; exact ⟨blk_cell (blk_new2 (w := w) (o := .map #[] 0) (Below.refl _ _)) 0, blk_new (bel_alloc (Below.refl _ _) _), bel_alloc (bel_alloc (Below.refl _ _) _) _⟩⟩
  clear hw1
  go_wp2_with fail
  refine bodyPost_ret (results_tmp2 rfl _ _ _) rfl ?_
  exact ⟨⟨_, _, rfl, Nat.le_succ _, Nat.le_refl _, HN.out.1, HN.out.2.1⟩, HN.out.2.2⟩

end Go.Proofs.YtnhnkfdhkifahaaGreatDoor
