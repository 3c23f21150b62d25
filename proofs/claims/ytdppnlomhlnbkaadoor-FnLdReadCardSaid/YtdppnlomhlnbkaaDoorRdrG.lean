/- The walk of bytes.Reader's Read where some bytes are there, and at the end. -/
import Derived.Test.YtdppnlomhlnbkaaDoorRdr
namespace Go.Proofs.YtdppnlomhlnbkaaDoor
open Go.RowKit

theorem copy_min (W : World) (g o m cm c' kk k ga oa : Nat) (bs : List UInt8) (hr : RdB W (some ⟨ga, oa, none⟩) kk c' bs) (hk : k = min m kk) (h0 : 0 < k) (hc : ∀ j, j < k → (W.cell? ⟨g, o + j, none⟩).isSome = true) (hf : ∀ j, j < k → W.frozen? ⟨g, o + j, none⟩ = false) :
    (Builtin.copy_ #[62, 62] 3 #[.slice (some ⟨g, o, none⟩) m cm, .slice (some ⟨ga, oa, none⟩) kk c']).run Tryd.prog W = .ok (goInt k) (W.setCells g o (Lib.byteCells (bs.take k))) := by
  have hl := hr.len
  have hlt : (bs.take k).length = k := by rw [List.length_take]; omega
  have h := run_copy_cells (P := Tryd.prog) W 62 62 3 5 g o m cm ⟨ga, oa, none⟩ kk c' (Lib.byteCells (bs.take k)) Tryd.underlying62 (by kernel_rfl) (by rw [Lib.byteCells_length, hlt, hk]; exact Nat.min_comm _ _)
    (fun j v hj => by
      have hjl : j < (bs.take k).length := by
        have := (List.getElem?_eq_some_iff.1 hj).1
        rwa [Lib.byteCells_length] at this
      obtain ⟨g', o', e, hcell⟩ := hr.lies (by omega)
      have e' := Option.some.inj e
      simp only [Addr.mk.injEq] at e'
      obtain ⟨rfl, rfl, _⟩ := e'
      rw [add_plain, hcell j (by omega)]
      rw [Lib.byteCells, List.getElem?_map, List.getElem?_eq_getElem hjl, List.getElem_take] at hj
      exact hj)
    (fun j hj => hc j (by rw [Lib.byteCells_length] at hj; omega)) (fun j hj => hf j (by rw [Lib.byteCells_length] at hj; omega)) (fun v hv => by
      simp only [Lib.byteCells, List.mem_map] at hv
      obtain ⟨b, _, rfl⟩ := hv
      rfl)
  rw [Lib.byteCells_length, hlt] at h
  exact h

set_option maxHeartbeats 4000000 in
set_option maxRecDepth 100000 in
/-- (*bytes.Reader).Read, where k bytes are there. -/
theorem readG_calls (g ga gd n c m k i : Nat) (q : Int) (bs : List UInt8) (w : World) (hg : RdrAt w g ga n c i q) (hr : RdB w (some ⟨ga, 0, none⟩) n c bs) (hag : ga < g) (hgd : g < gd)
    (hd : w.heap[gd]? = some (.cells (zeros m) 5 (0, 0))) (hm : 0 < k) (hkm : k ≤ m) (hmi : i + k ≤ n) (hk : k = m ∨ i + k = n) (hm63 : m ≤ 4611686018427387904) (hn : n ≤ 4611686018427387904) :
    Calls Tryd.prog 93 #[.pointer (some ⟨g, 0, none⟩), .slice (some ⟨gd, 0, none⟩) m m] w fun e w' => (e = .returned (.tuple #[.int .i64 k, .nilIface]) ∧ RdrAt w' g ga n c (i + k) (-1) ∧ RdB w' (some ⟨gd, 0, none⟩) k m ((bs.drop i).take k)) ∧ Below g w w' := by
  have c0 := blk_cell hg 0
  have c1 := blk_cell hg 1
  have c2 := blk_cell hg 2
  have f2 := blk_frozen hg 2
  have q1 : decide ((n : Int) ≤ (i : Int)) = false := decide_eq_false (by omega)
  have HG := Kp.mk hg
  go_enter Tryd.func93, Tryd.ntmps93
  go_wp2_with fail
  go_quiet (fail)
  go_wp2_with fail
  generalize hW : (World.setCell _ ⟨g, 2, none⟩ _) = W3
  have hg3 : RdrAt W3 g ga n c i (-1) := by rw [← hW]; exact blk_set hg 2 _
  have hb3 : Below g w W3 := by rw [← hW]; exact belB_set (p := ⟨g, 2, none⟩) (bel_drewN' (Below.refl _ _) _) (Nat.le_refl _) _
  have hd3 : W3.heap[gd]? = some (.cells (zeros m) 5 (0, 0)) := by rw [← hW]; exact blk_far (p := ⟨g, 2, none⟩) hd (by show gd ≠ g; omega) _
  have HG3 := Kp.mk hg3
  have HB3 := Kp.mk hb3
  have HD3 := Kp.mk hd3
  have HR := Kp.mk (show RdB W3 (some ⟨ga, 0, none⟩) n c bs from hr.belowB hb3 hag)
  have HX := Kp.mk (And.intro hm (And.intro hmi (And.intro hn (And.intro hag (And.intro hgd (And.intro hkm (And.intro hk hm63)))))))
  have hcc := hr.cap
  have HC := Kp.mk hcc
  clear c0 c1 c2 f2 q1 HG hg hr hd hm hmi hn hW hg3 hb3 hd3 hag hgd hcc hkm hk hm63
  refine wp_region_grow (by kernel_rfl) 10 (by decide) (apart_of (by kernel_rfl)) (by kernel_rfl) (rdR g ga gd n c m i) (fun _ _ _ _ => True) (fun _ _ _ _ h _ => by unfold rdR at *; exact h) ?_ ?_
  · intro j hj o ho vs w2 hb hpre
    rcases j with _ | _ | _ | _ | _ | _ | _ | _ | _ | _ | j
    · obtain rfl := Option.some.inj ho
      simp only [canon, List.range, List.range.loop, List.foldl]
      go_simp
      exact ⟨rfl, Below.refl _ _⟩
    · obtain rfl := Option.some.inj ho
      simp only [canon, List.range, List.range.loop, List.foldl]
      go_simp
      exact ⟨rfl, Below.refl _ _⟩
    · obtain rfl := Option.some.inj ho
      have e1 : vs 1 = _ := hpre 1 (by decide) rfl
      simp only [canon, List.range, List.range.loop, List.foldl]
      go_simp
      exact ⟨rfl, Below.refl _ _⟩
    · obtain rfl := Option.some.inj ho
      have e2 : vs 2 = _ := hpre 2 (by decide) rfl
      simp only [canon, List.range, List.range.loop, List.foldl]
      go_simp
      exact ⟨rfl, Below.refl _ _⟩
    · obtain rfl := Option.some.inj ho
      have e3 : vs 3 = _ := hpre 3 (by decide) rfl
      have hc := blk_keep HG3.out (bel_then (bel_drew (Below.refl _ _)) hb)
      have c0 := blk_cell hc 0
      have c1 := blk_cell hc 1
      simp only [canon, List.range, List.range.loop, List.foldl]
      go_simp
      exact ⟨rfl, Below.refl _ _⟩
    · obtain rfl := Option.some.inj ho
      simp only [canon, List.range, List.range.loop, List.foldl]
      go_simp
      exact ⟨rfl, Below.refl _ _⟩
    · obtain rfl := Option.some.inj ho
      have e5 : vs 5 = _ := hpre 5 (by decide) rfl
      simp only [canon, List.range, List.range.loop, List.foldl]
      go_simp
      exact ⟨rfl, Below.refl _ _⟩
    · obtain rfl := Option.some.inj ho
      have e6 : vs 6 = _ := hpre 6 (by decide) rfl
      simp only [canon, List.range, List.range.loop, List.foldl]
      go_simp
      exact ⟨rfl, Below.refl _ _⟩
    · obtain rfl := Option.some.inj ho
      have e7 : vs 7 = _ := hpre 7 (by decide) rfl
      have hc := blk_keep HG3.out (bel_then (bel_drew (Below.refl _ _)) hb)
      have c0 := blk_cell hc 0
      have c1 := blk_cell hc 1
      simp only [canon, List.range, List.range.loop, List.foldl]
      go_simp
      exact ⟨rfl, Below.refl _ _⟩
    · obtain rfl := Option.some.inj ho
      have e4 : vs 4 = _ := hpre 4 (by decide) rfl
      have e8 : vs 8 = _ := hpre 8 (by decide) rfl
      have hcut := cut_at 62 .i64 Tryd.underlying62 ga n c i (by have := HX.out; omega) HC.out
      simp only [canon, List.range, List.range.loop, List.foldl]
      go_simp
      exact ⟨rfl, Below.refl _ _⟩
    · omega
  · intro vs w2 hb hr hd
    have e0 : vs 0 = _ := hr 0 (by omega)
    have e9 : vs 9 = _ := hr 9 (by omega)
    obtain ⟨hm, hmi, hn, hag, hgd, hkm, hk, hm63⟩ := HX.out
    have hb2 : Below W3.heap.size W3 w2 := bel_then (bel_drew (Below.refl _ _)) hb
    have hd2 := blk_keep HD3.out hb2
    have hcells : ∀ j, j < m → (w2.cell? ⟨gd, 0 + j, none⟩).isSome = true ∧ w2.frozen? ⟨gd, 0 + j, none⟩ = false := fun j hj => by
      have hz := zeros_at m j hj
      exact ⟨by rw [blk_cell hd2, Nat.zero_add, hz]; rfl, blk_frozen hd2 _⟩
    have hcut : RdB w2 (some ⟨ga, i, none⟩) (n - i) (c - i) (bs.drop i) := by
      have h := (HR.out.below hb2).drop i (by omega)
      have hcc := HC.out
      rw [if_neg (by omega)] at h
      simpa [add_plain] using h
    have hcopy := copy_min w2 gd 0 m m (c - i) (n - i) k ga i (bs.drop i) hcut (by omega) hm (fun j hj => (hcells j (by omega)).1) (fun j hj => (hcells j (by omega)).2)
    have hput : RdB (w2.setCells gd 0 (Lib.byteCells ((bs.drop i).take k))) (some ⟨gd, 0, none⟩) k m ((bs.drop i).take k) := by
      have hl := hcut.len
      have hlt : ((bs.drop i).take k).length = k := by rw [List.length_take]; omega
      refine ⟨hlt, hkm, by omega, fun _ => ⟨_, _, rfl, fun t ht => ?_⟩⟩
      rw [World.cell?_setCells_in gd (Lib.byteCells ((bs.drop i).take k)) 0 _ (fun j hj => ?_) t (by rw [Lib.byteCells_length]; exact ht)]
      · simp [Lib.byteCells]
      · rw [Lib.byteCells_length, hlt] at hj; exact (hcells j (by omega)).1
    have hg4 : RdrAt (w2.setCells gd 0 (Lib.byteCells ((bs.drop i).take k))) g ga n c i (-1) := blk_setCells_far (w := w2) (by omega) _ _ (blk_keep HG3.out hb2)
    have hb4 : Below g w (w2.setCells gd 0 (Lib.byteCells ((bs.drop i).take k))) := belB_setCells (by omega) _ _ (HB3.out.trans (hb2.mono (by have := (Array.getElem?_eq_some_iff.1 HG3.out).1; omega)))
    simp only [canon, List.range, List.range.loop, List.foldl]
    refine wpAny_last 10 (by kernel_rfl) ?_
    refine wpOp_go rfl rfl ?_
    go_simp
    generalize hW4 : w2.setCells gd 0 _ = W4 at *
    refine wpAny_last 11 (by kernel_rfl) ?_
    refine wpOp_go rfl rfl ?_
    go_simp
    refine wpAny_none (by kernel_rfl) ?_ _
    have c0 := blk_cell hg4 0
    have c1 := blk_cell hg4 1
    have c2 := blk_cell hg4 2
    have f1 := blk_frozen hg4 1
    have hsum : ((i : Int) + (k : Int)) = ((i + k : Nat) : Int) := by omega
    have hg5 : RdrAt (W4.setCell ⟨g, 1, none⟩ (.int .i64 ((i : Int) + k))) g ga n c (i + k) (-1) := by rw [hsum]; exact blk_set hg4 1 _
    have hb5 : Below g w (W4.setCell ⟨g, 1, none⟩ (.int .i64 ((i : Int) + k))) := belB_set (p := ⟨g, 1, none⟩) hb4 (Nat.le_refl _) _
    have hput5 : RdB (W4.setCell ⟨g, 1, none⟩ (.int .i64 ((i : Int) + k))) (some ⟨gd, 0, none⟩) k m ((bs.drop i).take k) := hput.far (p := ⟨g, 1, none⟩) (by show gd ≠ g; omega)
    have HE := Kp.mk (And.intro hg5 (And.intro hput5 hb5))
    clear hsum hg5 hb5 hput5 hput hg4 hb4 hcopy hcells hd2 hb2 hcut hr hd
    go_wp2_with fail
    go_ret2
    exact ⟨⟨rfl, HE.out.1, HE.out.2.1⟩, HE.out.2.2⟩

set_option maxHeartbeats 2000000 in
set_option maxRecDepth 100000 in
/-- (*bytes.Reader).Read at the end. -/
theorem readEnd_calls (g ga n c i : Nat) (q : Int) (A : Option Addr) (m cm : Nat) (v : Value) (w : World) (hg : RdrAt w g ga n c i q) (hi : n ≤ i) (hv : w.cell? ⟨1, 0, none⟩ = some v) :
    Calls Tryd.prog 93 #[.pointer (some ⟨g, 0, none⟩), .slice A m cm] w fun e w' => e = .returned (.tuple #[.int .i64 0, v]) ∧ RdrAt w' g ga n c i q ∧ Below w.heap.size w w' := by
  have c0 := blk_cell hg 0
  have c1 := blk_cell hg 1
  have q1 : decide ((n : Int) ≤ (i : Int)) = true := decide_eq_true (by omega)
  have HG := Kp.mk hg
  clear hg
  go_enter Tryd.func93, Tryd.ntmps93
  go_wp2_with fail
  go_quiet (fail)
  go_wp2_with fail
  go_quiet (fail)
  go_wp2_with fail
  go_ret2
  exact ⟨rfl, HG.out, bel_drewN (bel_drewN (Below.refl _ _) _) _⟩

end Go.Proofs.YtdppnlomhlnbkaaDoor
