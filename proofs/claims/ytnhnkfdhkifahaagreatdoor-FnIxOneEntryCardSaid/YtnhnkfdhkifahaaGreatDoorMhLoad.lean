/- The walks of (*index.MultihashIndexSorted).put, newMultiWidthCodedIndex and (*index.MultihashIndexSorted).Load of one record. -/
import Derived.Test.YtnhnkfdhkifahaaGreatDoorRec0
namespace Go.Proofs.YtnhnkfdhkifahaaGreatDoor
open Go.RowKit
open Go.ChangeMaps (setBlock)

/-- What put's operations leave. -/
def ptR (im gM ic code : Nat) (j : Nat) (v : Value) (_ : World) : Prop :=
  match j with
  | 0 => v = .pointer (some ⟨im, 0, none⟩)
  | 1 => v = .pointer (some ⟨im, 0, none⟩)
  | 2 => v = .map (some gM)
  | 3 => v = .pointer (some ⟨ic, 0, none⟩)
  | 4 => v = .pointer (some ⟨ic, 0, none⟩)
  | 5 => v = .pointer (some ⟨ic, 1, none⟩)
  | 6 => v = .int .u64 code
  | _ => v = .pointer (some ⟨ic, 0, none⟩)

set_option maxHeartbeats 8000000 in
set_option maxRecDepth 100000 in
/-- put into an empty index. -/
theorem put_calls (im gM ic code clk : Nat) (w : World) (him : w.cell? ⟨im, 0, none⟩ = some (.map (some gM))) (hgM : w.heap[gM]? = some (.map #[] clk)) (hc : w.cell? ⟨ic, 1, none⟩ = some (.int .u64 code)) :
    Calls Tryz.prog 64 #[.pointer (some ⟨im, 0, none⟩), .pointer (some ⟨ic, 0, none⟩)] w fun e w' => e = .returned (.tuple #[]) ∧ w'.heap[gM]? = some (.map #[⟨.int .u64 code, .pointer (some ⟨ic, 0, none⟩), clk⟩] (clk + 1)) ∧ Keeps w w' ∧ Ex (· = gM) w w' := by
  have HX := Kp.mk (And.intro him (And.intro hgM hc))
  clear him hgM hc
  go_enter Tryz.func64, Tryz.ntmps64
  refine wp_region_growR (fun u u' => Below u.heap.size u u') (fun _ => Below.refl _ _) (fun _ _ _ h k => bel_then h k) (by kernel_rfl) 8 (by decide) (apart_of (by kernel_rfl)) (by kernel_rfl) (ptR im gM ic code) (fun _ _ _ _ => True) (fun _ _ _ _ h _ => by unfold ptR at *; exact h) ?_ ?_
  · intro j hj ob ho vs w5 hb5 hpre
    have hb := bel_then (bel_drew (Below.refl w.heap.size w)) hb5
    have c0 := cell_bel hb HX.out.1
    have c1 := cell_bel hb HX.out.2.2
    clear hb5 hb
    rcases j with _ | _ | _ | _ | _ | _ | _ | _ | j
    · obtain rfl := Option.some.inj ho
      simp only [canon, List.range, List.range.loop, List.foldl]
      go_simp
      exact ⟨rfl, Below.refl _ _⟩
    · have e0 : vs 0 = _ := hpre 0 (by decide) (by obtain rfl := Option.some.inj ho; rfl)
      obtain rfl := Option.some.inj ho
      simp only [canon, List.range, List.range.loop, List.foldl]
      go_simp
      exact ⟨rfl, Below.refl _ _⟩
    · have e1 : vs 1 = _ := hpre 1 (by decide) (by obtain rfl := Option.some.inj ho; rfl)
      obtain rfl := Option.some.inj ho
      simp only [canon, List.range, List.range.loop, List.foldl]
      go_simp
      exact ⟨rfl, Below.refl _ _⟩
    · obtain rfl := Option.some.inj ho
      simp only [canon, List.range, List.range.loop, List.foldl]
      go_simp
      exact ⟨rfl, Below.refl _ _⟩
    · have e3 : vs 3 = _ := hpre 3 (by decide) (by obtain rfl := Option.some.inj ho; rfl)
      obtain rfl := Option.some.inj ho
      simp only [canon, List.range, List.range.loop, List.foldl]
      go_simp
      exact ⟨rfl, Below.refl _ _⟩
    · have e4 : vs 4 = _ := hpre 4 (by decide) (by obtain rfl := Option.some.inj ho; rfl)
      obtain rfl := Option.some.inj ho
      simp only [canon, List.range, List.range.loop, List.foldl]
      go_simp
      exact ⟨rfl, Below.refl _ _⟩
    · have e5 : vs 5 = _ := hpre 5 (by decide) (by obtain rfl := Option.some.inj ho; rfl)
      obtain rfl := Option.some.inj ho
      simp only [canon, List.range, List.range.loop, List.foldl]
      go_simp
      exact ⟨rfl, Below.refl _ _⟩
    · obtain rfl := Option.some.inj ho
      simp only [canon, List.range, List.range.loop, List.foldl]
      go_simp
      exact ⟨rfl, Below.refl _ _⟩
    · omega
  · intro vs w7 hb7 hrr _
    have e2 : vs 2 = _ := hrr 2 (by omega)
    have e6 : vs 6 = _ := hrr 6 (by omega)
    have e7 : vs 7 = _ := hrr 7 (by omega)
    have hb := bel_then (bel_drew (Below.refl w.heap.size w)) hb7
    have hgm7 := blk_keep HX.out.2.1 hb
    obtain ⟨w8, hw8⟩ : ∃ W, W = setBlock w7 gM (.map #[⟨.int .u64 code, .pointer (some ⟨ic, 0, none⟩), clk⟩] (clk + 1)) := ⟨_, rfl⟩
    have hup : (Instr.mapUpdate 71 (.map (some gM)) (.int .u64 code) (.pointer (some ⟨ic, 0, none⟩))).run Tryz.prog w7 = .ok () w8 := by rw [hw8]; exact upd_none (P := Tryz.prog) Tryz.underlying71 Tryz.underlying22 hgm7 _
    have HF : Kp (w8.heap[gM]? = some (.map #[⟨.int .u64 code, .pointer (some ⟨ic, 0, none⟩), clk⟩] (clk + 1)) ∧ Keeps w w8 ∧ Ex (· = gM) w w8) := by
      refine ⟨by rw [hw8]; exact set_same _ hgm7, by rw [hw8]; exact (keeps_below hb).trans (keeps_map hgm7 _), ?_⟩
      rw [hw8]
      exact ⟨hb.os, hb.tape, hb.output, by rw [set_size]; exact hb.size, fun k hk hne => (set_far _ hne).trans (hb.block k hk)⟩
    clear hb7 hrr hb hgm7 hw8
    simp only [canon, List.range, List.range.loop, List.foldl]
    refine wpAny_last 8 (by kernel_rfl) ?_
    refine wpOp_go rfl rfl ?_
    go_simp
    refine wpAny_none (by kernel_rfl) ?_ _
    go_wp2_with fail
    go_end0
    exact ⟨rfl, HF.out⟩

set_option maxRecDepth 100000 in
/-- newMultiWidthCodedIndex. -/
theorem newMc_calls (w : World) :
    Calls Tryz.prog 62 #[] w fun e w' => e = .returned (.pointer (some ⟨w.heap.size + 1, 0, none⟩)) ∧ w' = (w.alloc (.map #[] 0)).alloc (.cells #[.map (some w.heap.size), .int .u64 0] 135) := by
  have hmap := fun (W : World) => run_makeMap_plain (P := Tryz.prog) W 68
  go_enter Tryz.func62, Tryz.ntmps62
  go_wp2_with fail
  go_ret
  exact ⟨by first | rfl | simp, by first | rfl | simp⟩

end Go.Proofs.YtnhnkfdhkifahaaGreatDoor
