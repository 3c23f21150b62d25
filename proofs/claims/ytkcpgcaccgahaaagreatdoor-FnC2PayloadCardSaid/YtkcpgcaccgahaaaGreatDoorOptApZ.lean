/- The walk of car.ApplyOptions where no limit of a header is asked for. Printed by gen-optapz.py. -/
import Derived.Test.YtkcpgcaccgahaaaGreatDoorOptA
import Derived.Deep.MidRow
namespace Go.Proofs.YtkcpgcaccgahaaaGreatDoor
open Go.RowKit

theorem Opt13.setZ (u : Opt13) (k : Nat) (x : Value) (hk : k ∈ optKs) (hx : okO k x) : ∃ u' : Opt13, u.cells.setIfInBounds k x = u'.cells ∧ (k ≠ 11 → u'.mh = u.mh) := by
  simp only [optKs, List.mem_cons, List.not_mem_nil, or_false] at hk
  rcases hk with rfl | rfl | rfl | rfl | rfl | rfl | rfl | rfl | rfl | rfl | rfl | rfl
  · obtain ⟨z, rfl⟩ : ∃ z : Nat, x = .int .u64 z := by simpa [okO] using hx
    exact ⟨{ u with dp := z }, rfl, fun h => rfl⟩
  · obtain ⟨z, rfl⟩ : ∃ z : Nat, x = .int .u64 z := by simpa [okO] using hx
    exact ⟨{ u with ip := z }, rfl, fun h => rfl⟩
  · obtain ⟨z, rfl⟩ : ∃ z : Nat, x = .int .u64 z := by simpa [okO] using hx
    exact ⟨{ u with ic := z }, rfl, fun h => rfl⟩
  · obtain ⟨z, rfl⟩ : ∃ z, x = .bool z := by simpa [okO] using hx
    exact ⟨{ u with z := z }, rfl, fun h => rfl⟩
  · obtain ⟨z, rfl⟩ : ∃ z : Nat, x = .int .u64 z := by simpa [okO] using hx
    exact ⟨{ u with mc := z }, rfl, fun h => rfl⟩
  · obtain ⟨z, rfl⟩ : ∃ z, x = .bool z := by simpa [okO] using hx
    exact ⟨{ u with si := z }, rfl, fun h => rfl⟩
  · obtain ⟨z, rfl⟩ : ∃ z, x = .bool z := by simpa [okO] using hx
    exact ⟨{ u with dup := z }, rfl, fun h => rfl⟩
  · obtain ⟨z, rfl⟩ : ∃ z, x = .bool z := by simpa [okO] using hx
    exact ⟨{ u with wh := z }, rfl, fun h => rfl⟩
  · obtain ⟨z, rfl⟩ : ∃ z, x = .bool z := by simpa [okO] using hx
    exact ⟨{ u with v1 := z }, rfl, fun h => rfl⟩
  · obtain ⟨z, rfl⟩ : ∃ z, x = .bool z := by simpa [okO] using hx
    exact ⟨{ u with tc := z }, rfl, fun h => rfl⟩
  · obtain ⟨z, rfl⟩ : ∃ z : Nat, x = .int .u64 z := by simpa [okO] using hx
    exact ⟨{ u with mh := z }, rfl, fun h => absurd rfl h⟩
  · obtain ⟨z, rfl⟩ : ∃ z : Nat, x = .int .u64 z := by simpa [okO] using hx
    exact ⟨{ u with ms := z }, rfl, fun h => rfl⟩

set_option maxHeartbeats 8000000 in
set_option maxRecDepth 100000 in
/-- car.ApplyOptions. -/
theorem applyOptsZ_calls (A : Option Addr) (n c : Nat) (E : List (Nat × Nat × Value)) (w : World) (hr : RdO w A n E) (hn : 8 ≤ n) (hn1 : n ≤ 100) (h11 : ∀ y ∈ E, y.1 ≠ 11) :
    Calls Tryz.prog 57 #[.slice A n c] w fun e w' => (∃ u : Opt13, u.mh = 33554432 ∧ e = .returned (.agg u.cells)) ∧ Below w.heap.size w w' := by
  obtain ⟨hlen, ⟨g, o, rfl, hc⟩, hin⟩ := hr
  obtain ⟨C0, hC0⟩ : ∃ C, C = Obj.cells #[.int .u64 0, .int .u64 0, .int .u64 0, .bool false, .int .u64 0, .bool false, .bool false, .bool false, .int .u64 0, .bool false, .bool false, .int .u64 0, .int .u64 0] 88 := ⟨_, rfl⟩
  obtain ⟨u0, hu0⟩ : ∃ u : Opt13, u = ⟨0, 0, 0, false, 0, false, false, false, 9223372036854775807, false, false, 33554432, 8388608⟩ := ⟨_, rfl⟩
  have hb1 : Below w.heap.size w ((w.alloc C0).alloc (.cells u0.cells 88)) := bel_alloc (bel_alloc (Below.refl _ _) _) _
  have hp1 : ((w.alloc C0).alloc (.cells u0.cells 88)).heap[w.heap.size + 1]? = some (.cells u0.cells 88 (0, 0)) := blk_new2 (Below.refl _ _)
  have hp0 : ((w.alloc C0).alloc (.cells u0.cells 88)).heap[w.heap.size]? = some C0 := blk_new (bel_alloc (Below.refl _ _) _)
  have hu0c : u0.cells = #[.int .u64 0, .int .u64 0, .int .u64 0, .bool false, .int .u64 0, .bool false, .bool false, .bool false, .int .u64 9223372036854775807, .bool false, .bool false, .int .u64 33554432, .int .u64 8388608] := by rw [hu0]; rfl
  obtain ⟨W1, hW1⟩ : ∃ W, W = ((w.alloc C0).alloc (.cells u0.cells 88)) := ⟨_, rfl⟩
  rw [← hW1] at hb1 hp1 hp0
  have HC := Kp.mk (fun i h => cell_bel hb1 (hc i h))
  have HI := Kp.mk (hin.below hb1)
  have HG : Kp (g < w.heap.size) := ⟨World.block_lt_of_cell? w _ (hc 0 (by omega))⟩
  have HV : Kp (∀ y ∈ E, y.2.1 < w.heap.size) := ⟨fun y hy => by obtain ⟨_, _, t, h⟩ := hin y hy; exact (Array.getElem?_eq_some_iff.1 h).1⟩
  have HB1 := Kp.mk hb1
  have HP1 := Kp.mk (And.intro hp0 hp1)
  have HS := Kp.mk h11
  have HU0 : Kp (u0.mh = 33554432) := ⟨by rw [hu0]⟩
  have HN := Kp.mk (And.intro hlen (And.intro hn hn1))
  have HWW := Kp.mk (And.intro hW1 (And.intro hu0c hC0))
  clear hc hin hb1 hp1 hp0 h11 hlen hn hn1 hu0 hu0c hC0 hW1
  go_enter Tryz.func57, Tryz.ntmps57
  go_wp2_with fail
  rw [← HWW.out.2.1, ← HWW.out.2.2, ← HWW.out.1]
  go_loopw [5, 9] (fun _ vi wr => ∃ i : Nat, vi = .int .i64 (i : Int) ∧ i ≤ n ∧ Kp (Ex (fun j => j = w.heap.size + 1) W1 wr ∧ ∃ u : Opt13, wr.heap[w.heap.size + 1]? = some (.cells u.cells 88 (0, 0)) ∧ u.mh = 33554432))
    (fun _ vi _ => n - (match vi with | .int _ z => z.toNat | _ => 0))
  case atStart => exact ⟨0, rfl, Nat.zero_le _, ⟨Ex.refl _ _, u0, HP1.out.2, HU0.out⟩⟩
  case round =>
    obtain ⟨i, rfl, hi, HJ⟩ := hrel
    by_cases hin : i < n
    · have hil : i < E.length := by rw [HN.out.1]; exact hin
      have c0 : wr.cell? ⟨g, o + i, none⟩ = some (optV E[i].1 E[i].2.1) := HJ.out.1.cell (HC.out i hil) (by have := HG.out; show ¬ g = w.heap.size + 1; omega)
      have hmem := List.getElem_mem hil
      obtain ⟨hk, hx, tc, hcell⟩ := HI.out _ hmem
      have hlt := HV.out _ hmem
      have h11 := HS.out _ hmem
      generalize E[i] = y at *
      obtain ⟨k, cc, x⟩ := y
      obtain ⟨hx1, u, hu, hu5⟩ := HJ.out
      have hcc := hx1.keep hcell (by show ¬ cc = w.heap.size + 1; have : cc < w.heap.size := hlt; omega)
      have hcall := optDo_calls k (w.heap.size + 1) cc x wr u.cells _ tc hk hx hu rfl hcc
      have hent := optF_ent k hk
      obtain ⟨u', hu', h1⟩ := u.setZ k x hk hx
      have HNX : Kp (Ex (fun j => j = w.heap.size + 1) W1 (wr.setCell ⟨w.heap.size + 1, k, none⟩ x) ∧ ∃ u : Opt13, (wr.setCell ⟨w.heap.size + 1, k, none⟩ x).heap[w.heap.size + 1]? = some (.cells u.cells 88 (0, 0)) ∧ u.mh = 33554432) := by
        refine ⟨hx1.setCell (p := ⟨w.heap.size + 1, k, none⟩) rfl _, u', ?_, (h1 h11).trans hu5⟩
        rw [← hu']; exact blk_set hu k x
      have HCALL := Kp.mk hcall
      obtain ⟨F, hF⟩ : ∃ F, F = optF k := ⟨_, rfl⟩
      rw [← hF] at HCALL hent
      simp only [optV] at c0
      rw [← hF] at c0
      clear hmem hk hx hcell hlt h11 hx1 hu hu5 hcc hcall hu' h1 hF
      go_wp2_with fail
      refine HCALL.out.mono ?_
      rintro e w2 ⟨rfl, rfl⟩
      clear c0 hent HCALL
      have hwi : wrap64 ((i : Int) + 1) = (i : Int) + 1 := by have h3 := HN.out.2.2; unfold wrap64; omega
      go_wp2_with fail
      go_roundw
      case rel => exact ⟨i + 1, by first | (simp [hwi]; done) | (simp; done) | (rw [hwi]; rfl), by omega, HNX⟩
      case measure => simp; omega
    · have hin' : i = n := by omega
      obtain ⟨hx1, u, hu, hu5⟩ := HJ.out
      have h0 := hx1.keep HP1.out.1 (by show ¬ w.heap.size = w.heap.size + 1; omega)
      have hbel := HB1.out.trans ((hx1.toBelow (B := w.heap.size) (fun j hj e => by omega) HB1.out.size))
      have HX := Kp.mk hbel
      rw [HWW.out.2.2] at h0
      obtain ⟨a0, a1, a2, a3, a4, a5, a6, a7, a8, a9, a10, a11, a12⟩ := u
      simp only [Opt13.cells] at hu hu5
      have HMH := Kp.mk hu5
      have HH := Kp.mk (And.intro hu h0)
      clear HJ hx1 hu hu5 h0 hbel HC HI HG HV HB1 HP1 HS HN HWW
      have hpq : w.heap.size ≠ w.heap.size + 1 := by omega
      by_cases h2 : a2 = 0
      · subst h2
        by_cases h4 : a4 = 0
        · subst h4
          have c2 := blk_cell HH.out.1 2
          have f2 := blk_frozen HH.out.1 2
          have c4 := blk_cell (blk_set HH.out.1 2 (.int .u64 1025)) 4
          have f4 := blk_frozen (blk_set HH.out.1 2 (.int .u64 1025)) 4
          have HQ := Kp.mk (blk_far (p := ⟨w.heap.size + 1, 4, none⟩) (blk_far (p := ⟨w.heap.size + 1, 2, none⟩) HH.out.2 hpq (.int .u64 1025)) hpq (.int .u64 2048))
          have HBE := Kp.mk (bel_set (bel_set HX.out (p := ⟨w.heap.size + 1, 2, none⟩) (Nat.le_succ _) (.int .u64 1025)) (p := ⟨w.heap.size + 1, 4, none⟩) (Nat.le_succ _) (.int .u64 2048))
          have hrg : World.rangeAt ((wr.setCell ⟨w.heap.size + 1, 2, none⟩ (.int .u64 1025)).setCell ⟨w.heap.size + 1, 4, none⟩ (.int .u64 2048)) (w.heap.size + 1) 0 [.int .u64 a0, .int .u64 a1, .int .u64 1025, .bool a3, .int .u64 2048, .bool a5, .bool a6, .bool a7, .int .u64 a8, .bool a9, .bool a10, .int .u64 a11, .int .u64 a12] := range_blk (blk_set (blk_set HH.out.1 2 (.int .u64 1025)) 4 (.int .u64 2048))
          have hth : World.there ((wr.setCell ⟨w.heap.size + 1, 2, none⟩ (.int .u64 1025)).setCell ⟨w.heap.size + 1, 4, none⟩ (.int .u64 2048)) w.heap.size 0 13 := there_blk HQ.out 13 (by decide)
          have HRG := Kp.mk hrg
          have HTH := Kp.mk hth
          clear hrg hth
          have HFIN : Kp ((((wr.setCell ⟨w.heap.size + 1, 2, none⟩ (.int .u64 1025)).setCell ⟨w.heap.size + 1, 4, none⟩ (.int .u64 2048)).setCells w.heap.size 0 [.int .u64 a0, .int .u64 a1, .int .u64 1025, .bool a3, .int .u64 2048, .bool a5, .bool a6, .bool a7, .int .u64 a8, .bool a9, .bool a10, .int .u64 a11, .int .u64 a12]).heap[w.heap.size]? = some (.cells #[.int .u64 a0, .int .u64 a1, .int .u64 1025, .bool a3, .int .u64 2048, .bool a5, .bool a6, .bool a7, .int .u64 a8, .bool a9, .bool a10, .int .u64 a11, .int .u64 a12] 88 (0, 0))) := ⟨blk_setAll [.int .u64 a0, .int .u64 a1, .int .u64 1025, .bool a3, .int .u64 2048, .bool a5, .bool a6, .bool a7, .int .u64 a8, .bool a9, .bool a10, .int .u64 a11, .int .u64 a12] [] [.int .u64 0, .int .u64 0, .int .u64 0, .bool false, .int .u64 0, .bool false, .bool false, .bool false, .int .u64 0, .bool false, .bool false, .int .u64 0, .int .u64 0] _ HQ.out rfl⟩
          clear HH HX
          go_wp2_with (first | (refine wpList_load_mid rfl 88 _ rfl _ _ rfl [.int .u64 a0, .int .u64 a1, .int .u64 1025, .bool a3, .int .u64 2048, .bool a5, .bool a6, .bool a7, .int .u64 a8, .bool a9, .bool a10, .int .u64 a11, .int .u64 a12] _ HRG.out Tryz.underlying88 rfl (by kernel_rfl) ?_) | (refine wpList_store_mid rfl 88 _ _ rfl _ _ #[.int .u64 a0, .int .u64 a1, .int .u64 1025, .bool a3, .int .u64 2048, .bool a5, .bool a6, .bool a7, .int .u64 a8, .bool a9, .bool a10, .int .u64 a11, .int .u64 a12] rfl rfl HTH.out (by kernel_rfl) (by simp [Value.oneCell']) ?_))
          refine bodyPost_ret (res_cell1 rfl _ _ w.heap.size 88 #[.int .u64 a0, .int .u64 a1, .int .u64 1025, .bool a3, .int .u64 2048, .bool a5, .bool a6, .bool a7, .int .u64 a8, .bool a9, .bool a10, .int .u64 a11, .int .u64 a12] _ rfl HFIN.out Tryz.underlying88 rfl (by kernel_rfl)) rfl ?_
          exact ⟨⟨⟨a0, a1, 1025, a3, 2048, a5, a6, a7, a8, a9, a10, a11, a12⟩, HMH.out, rfl⟩, bel_setAll (Nat.le_refl _) _ _ HBE.out⟩
        · have h4' : (a4 : Int) ≠ 0 := by omega
          have c2 := blk_cell HH.out.1 2
          have f2 := blk_frozen HH.out.1 2
          have c4 := blk_cell (blk_set HH.out.1 2 (.int .u64 1025)) 4
          have f4 := blk_frozen (blk_set HH.out.1 2 (.int .u64 1025)) 4
          have HQ := Kp.mk (blk_far (p := ⟨w.heap.size + 1, 2, none⟩) HH.out.2 hpq (.int .u64 1025))
          have HBE := Kp.mk (bel_set HX.out (p := ⟨w.heap.size + 1, 2, none⟩) (Nat.le_succ _) (.int .u64 1025))
          have hrg : World.rangeAt (wr.setCell ⟨w.heap.size + 1, 2, none⟩ (.int .u64 1025)) (w.heap.size + 1) 0 [.int .u64 a0, .int .u64 a1, .int .u64 1025, .bool a3, .int .u64 a4, .bool a5, .bool a6, .bool a7, .int .u64 a8, .bool a9, .bool a10, .int .u64 a11, .int .u64 a12] := range_blk (blk_set HH.out.1 2 (.int .u64 1025))
          have hth : World.there (wr.setCell ⟨w.heap.size + 1, 2, none⟩ (.int .u64 1025)) w.heap.size 0 13 := there_blk HQ.out 13 (by decide)
          have HRG := Kp.mk hrg
          have HTH := Kp.mk hth
          clear hrg hth
          have HFIN : Kp (((wr.setCell ⟨w.heap.size + 1, 2, none⟩ (.int .u64 1025)).setCells w.heap.size 0 [.int .u64 a0, .int .u64 a1, .int .u64 1025, .bool a3, .int .u64 a4, .bool a5, .bool a6, .bool a7, .int .u64 a8, .bool a9, .bool a10, .int .u64 a11, .int .u64 a12]).heap[w.heap.size]? = some (.cells #[.int .u64 a0, .int .u64 a1, .int .u64 1025, .bool a3, .int .u64 a4, .bool a5, .bool a6, .bool a7, .int .u64 a8, .bool a9, .bool a10, .int .u64 a11, .int .u64 a12] 88 (0, 0))) := ⟨blk_setAll [.int .u64 a0, .int .u64 a1, .int .u64 1025, .bool a3, .int .u64 a4, .bool a5, .bool a6, .bool a7, .int .u64 a8, .bool a9, .bool a10, .int .u64 a11, .int .u64 a12] [] [.int .u64 0, .int .u64 0, .int .u64 0, .bool false, .int .u64 0, .bool false, .bool false, .bool false, .int .u64 0, .bool false, .bool false, .int .u64 0, .int .u64 0] _ HQ.out rfl⟩
          clear HH HX
          go_wp2_with (first | (refine wpList_load_mid rfl 88 _ rfl _ _ rfl [.int .u64 a0, .int .u64 a1, .int .u64 1025, .bool a3, .int .u64 a4, .bool a5, .bool a6, .bool a7, .int .u64 a8, .bool a9, .bool a10, .int .u64 a11, .int .u64 a12] _ HRG.out Tryz.underlying88 rfl (by kernel_rfl) ?_) | (refine wpList_store_mid rfl 88 _ _ rfl _ _ #[.int .u64 a0, .int .u64 a1, .int .u64 1025, .bool a3, .int .u64 a4, .bool a5, .bool a6, .bool a7, .int .u64 a8, .bool a9, .bool a10, .int .u64 a11, .int .u64 a12] rfl rfl HTH.out (by kernel_rfl) (by simp [Value.oneCell']) ?_))
          refine bodyPost_ret (res_cell1 rfl _ _ w.heap.size 88 #[.int .u64 a0, .int .u64 a1, .int .u64 1025, .bool a3, .int .u64 a4, .bool a5, .bool a6, .bool a7, .int .u64 a8, .bool a9, .bool a10, .int .u64 a11, .int .u64 a12] _ rfl HFIN.out Tryz.underlying88 rfl (by kernel_rfl)) rfl ?_
          exact ⟨⟨⟨a0, a1, 1025, a3, a4, a5, a6, a7, a8, a9, a10, a11, a12⟩, HMH.out, rfl⟩, bel_setAll (Nat.le_refl _) _ _ HBE.out⟩
      · have h2' : (a2 : Int) ≠ 0 := by omega
        by_cases h4 : a4 = 0
        · subst h4
          have c2 := blk_cell HH.out.1 2
          have f2 := blk_frozen HH.out.1 2
          have c4 := blk_cell HH.out.1 4
          have f4 := blk_frozen HH.out.1 4
          have HQ := Kp.mk (blk_far (p := ⟨w.heap.size + 1, 4, none⟩) HH.out.2 hpq (.int .u64 2048))
          have HBE := Kp.mk (bel_set HX.out (p := ⟨w.heap.size + 1, 4, none⟩) (Nat.le_succ _) (.int .u64 2048))
          have hrg : World.rangeAt (wr.setCell ⟨w.heap.size + 1, 4, none⟩ (.int .u64 2048)) (w.heap.size + 1) 0 [.int .u64 a0, .int .u64 a1, .int .u64 a2, .bool a3, .int .u64 2048, .bool a5, .bool a6, .bool a7, .int .u64 a8, .bool a9, .bool a10, .int .u64 a11, .int .u64 a12] := range_blk (blk_set HH.out.1 4 (.int .u64 2048))
          have hth : World.there (wr.setCell ⟨w.heap.size + 1, 4, none⟩ (.int .u64 2048)) w.heap.size 0 13 := there_blk HQ.out 13 (by decide)
          have HRG := Kp.mk hrg
          have HTH := Kp.mk hth
          clear hrg hth
          have HFIN : Kp (((wr.setCell ⟨w.heap.size + 1, 4, none⟩ (.int .u64 2048)).setCells w.heap.size 0 [.int .u64 a0, .int .u64 a1, .int .u64 a2, .bool a3, .int .u64 2048, .bool a5, .bool a6, .bool a7, .int .u64 a8, .bool a9, .bool a10, .int .u64 a11, .int .u64 a12]).heap[w.heap.size]? = some (.cells #[.int .u64 a0, .int .u64 a1, .int .u64 a2, .bool a3, .int .u64 2048, .bool a5, .bool a6, .bool a7, .int .u64 a8, .bool a9, .bool a10, .int .u64 a11, .int .u64 a12] 88 (0, 0))) := ⟨blk_setAll [.int .u64 a0, .int .u64 a1, .int .u64 a2, .bool a3, .int .u64 2048, .bool a5, .bool a6, .bool a7, .int .u64 a8, .bool a9, .bool a10, .int .u64 a11, .int .u64 a12] [] [.int .u64 0, .int .u64 0, .int .u64 0, .bool false, .int .u64 0, .bool false, .bool false, .bool false, .int .u64 0, .bool false, .bool false, .int .u64 0, .int .u64 0] _ HQ.out rfl⟩
          clear HH HX
          go_wp2_with (first | (refine wpList_load_mid rfl 88 _ rfl _ _ rfl [.int .u64 a0, .int .u64 a1, .int .u64 a2, .bool a3, .int .u64 2048, .bool a5, .bool a6, .bool a7, .int .u64 a8, .bool a9, .bool a10, .int .u64 a11, .int .u64 a12] _ HRG.out Tryz.underlying88 rfl (by kernel_rfl) ?_) | (refine wpList_store_mid rfl 88 _ _ rfl _ _ #[.int .u64 a0, .int .u64 a1, .int .u64 a2, .bool a3, .int .u64 2048, .bool a5, .bool a6, .bool a7, .int .u64 a8, .bool a9, .bool a10, .int .u64 a11, .int .u64 a12] rfl rfl HTH.out (by kernel_rfl) (by simp [Value.oneCell']) ?_))
          refine bodyPost_ret (res_cell1 rfl _ _ w.heap.size 88 #[.int .u64 a0, .int .u64 a1, .int .u64 a2, .bool a3, .int .u64 2048, .bool a5, .bool a6, .bool a7, .int .u64 a8, .bool a9, .bool a10, .int .u64 a11, .int .u64 a12] _ rfl HFIN.out Tryz.underlying88 rfl (by kernel_rfl)) rfl ?_
          exact ⟨⟨⟨a0, a1, a2, a3, 2048, a5, a6, a7, a8, a9, a10, a11, a12⟩, HMH.out, rfl⟩, bel_setAll (Nat.le_refl _) _ _ HBE.out⟩
        · have h4' : (a4 : Int) ≠ 0 := by omega
          have c2 := blk_cell HH.out.1 2
          have f2 := blk_frozen HH.out.1 2
          have c4 := blk_cell HH.out.1 4
          have f4 := blk_frozen HH.out.1 4
          have HQ := Kp.mk HH.out.2
          have HBE := Kp.mk HX.out
          have hrg : World.rangeAt wr (w.heap.size + 1) 0 [.int .u64 a0, .int .u64 a1, .int .u64 a2, .bool a3, .int .u64 a4, .bool a5, .bool a6, .bool a7, .int .u64 a8, .bool a9, .bool a10, .int .u64 a11, .int .u64 a12] := range_blk HH.out.1
          have hth : World.there wr w.heap.size 0 13 := there_blk HQ.out 13 (by decide)
          have HRG := Kp.mk hrg
          have HTH := Kp.mk hth
          clear hrg hth
          have HFIN : Kp ((wr.setCells w.heap.size 0 [.int .u64 a0, .int .u64 a1, .int .u64 a2, .bool a3, .int .u64 a4, .bool a5, .bool a6, .bool a7, .int .u64 a8, .bool a9, .bool a10, .int .u64 a11, .int .u64 a12]).heap[w.heap.size]? = some (.cells #[.int .u64 a0, .int .u64 a1, .int .u64 a2, .bool a3, .int .u64 a4, .bool a5, .bool a6, .bool a7, .int .u64 a8, .bool a9, .bool a10, .int .u64 a11, .int .u64 a12] 88 (0, 0))) := ⟨blk_setAll [.int .u64 a0, .int .u64 a1, .int .u64 a2, .bool a3, .int .u64 a4, .bool a5, .bool a6, .bool a7, .int .u64 a8, .bool a9, .bool a10, .int .u64 a11, .int .u64 a12] [] [.int .u64 0, .int .u64 0, .int .u64 0, .bool false, .int .u64 0, .bool false, .bool false, .bool false, .int .u64 0, .bool false, .bool false, .int .u64 0, .int .u64 0] _ HQ.out rfl⟩
          clear HH HX
          go_wp2_with (first | (refine wpList_load_mid rfl 88 _ rfl _ _ rfl [.int .u64 a0, .int .u64 a1, .int .u64 a2, .bool a3, .int .u64 a4, .bool a5, .bool a6, .bool a7, .int .u64 a8, .bool a9, .bool a10, .int .u64 a11, .int .u64 a12] _ HRG.out Tryz.underlying88 rfl (by kernel_rfl) ?_) | (refine wpList_store_mid rfl 88 _ _ rfl _ _ #[.int .u64 a0, .int .u64 a1, .int .u64 a2, .bool a3, .int .u64 a4, .bool a5, .bool a6, .bool a7, .int .u64 a8, .bool a9, .bool a10, .int .u64 a11, .int .u64 a12] rfl rfl HTH.out (by kernel_rfl) (by simp [Value.oneCell']) ?_))
          refine bodyPost_ret (res_cell1 rfl _ _ w.heap.size 88 #[.int .u64 a0, .int .u64 a1, .int .u64 a2, .bool a3, .int .u64 a4, .bool a5, .bool a6, .bool a7, .int .u64 a8, .bool a9, .bool a10, .int .u64 a11, .int .u64 a12] _ rfl HFIN.out Tryz.underlying88 rfl (by kernel_rfl)) rfl ?_
          exact ⟨⟨⟨a0, a1, a2, a3, a4, a5, a6, a7, a8, a9, a10, a11, a12⟩, HMH.out, rfl⟩, bel_setAll (Nat.le_refl _) _ _ HBE.out⟩

end Go.Proofs.YtkcpgcaccgahaaaGreatDoor
