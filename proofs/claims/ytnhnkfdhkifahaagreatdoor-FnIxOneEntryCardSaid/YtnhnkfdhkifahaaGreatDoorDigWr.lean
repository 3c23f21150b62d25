/- The walk of (index.digestRecord).write. -/
import Derived.Test.YtnhnkfdhkifahaaGreatDoorWrTo
import Derived.Test.YtnhnkfdhkifahaaGreatDoorTHash
namespace Go.Proofs.YtnhnkfdhkifahaaGreatDoor
open Go.RowKit

theorem copy_bytesM (W : World) (g N n c c' : Nat) (A : Option Addr) (bs : List UInt8) (hr : RdB W A n c' bs) (hN : n ≤ N) (hc : ∀ j, j < n → (W.cell? ⟨g, 0 + j, none⟩).isSome = true) (hf : ∀ j, j < n → W.frozen? ⟨g, 0 + j, none⟩ = false) :
    (Builtin.copy_ #[33, 33] 3 #[.slice (some ⟨g, 0, none⟩) N c, .slice A n c']).run Tryz.prog W = .ok (goInt n) (W.setCells g 0 (Lib.byteCells bs)) := by
  have hl := hr.len
  have hmin : Nat.min n N = n := Nat.min_eq_left hN
  rcases Nat.eq_zero_or_pos n with h0 | hp
  · have hbs : bs = [] := List.eq_nil_of_length_eq_zero (by omega)
    subst hbs
    subst h0
    exact run_copy_none W 33 33 3 5 _ _ N c 0 c' Tryz.underlying33 (by kernel_rfl) (by rw [hmin])
  · obtain ⟨ga, oa, rfl, hcell⟩ := hr.lies hp
    have h := run_copy_cells (P := Tryz.prog) W 33 33 3 5 g 0 N c ⟨ga, oa, none⟩ n c' (Lib.byteCells bs) Tryz.underlying33 (by kernel_rfl) (by rw [Lib.byteCells_length, hl, hmin])
      (fun j v hj => by
        have hjl : j < bs.length := by
          have := (List.getElem?_eq_some_iff.1 hj).1
          rwa [Lib.byteCells_length] at this
        rw [add_plain, hcell j hjl]
        simp [Lib.byteCells, List.getElem?_eq_getElem hjl] at hj
        rw [hj])
      (fun j hj => hc j (by rw [Lib.byteCells_length] at hj; omega)) (fun j hj => hf j (by rw [Lib.byteCells_length] at hj; omega)) (byteCells_one _)
    rw [Lib.byteCells_length, hl] at h
    exact h

theorem cutHi (t : TypeId) (ht : Tryz.prog.underlying t = some (.slice 5)) (g n l : Nat) (h1 : l < n) (W : World) :
    (Instr.slice t (.slice (some ⟨g, 0, none⟩) n n) (some (.int .i64 (l : Int))) none none).run Tryz.prog W = .ok (.slice (some ⟨g, l, none⟩) (n - l) (n - l)) W := by
  obtain ⟨i, hi, _, hs, _⟩ := info_parts info_u8
  have hel : Tryz.prog.elem t = 5 := by simp [Program.elem, ht]
  have hu : Tryz.prog.underlying t = some (.slice (Tryz.prog.elem t)) := by rw [hel]; exact ht
  rw [run_slice_l W t _ n n hu .i64 (l : Int) (by omega) (by omega), hel]
  have hne : ¬ n = l := by omega
  simp [sizeOf, typeInfo, hi, hs, sliced, Result.andThen, add_plain, hne]
theorem put_dig (N n off : Nat) (ds : List UInt8) (hN : N = n + 8) (hl : ds.length = n) : (putArr (putArr (zeros N) 0 (Lib.byteCells ds)) n (Lib.byteCells (Lib.leBytes 8 off))).toList = Lib.byteCells (ds ++ Lib.leBytes 8 off) := by
  have h1 : (Lib.byteCells ds).length = n := by rw [Lib.byteCells_length, hl]
  have h2 : (Lib.byteCells (Lib.leBytes 8 off)).length = 8 := by rw [Lib.byteCells_length, Lib.leBytes_length]
  have e1 := putArr_toList (Lib.byteCells ds) 0 (zeros N) (by rw [h1, zeros_size]; omega)
  rw [List.take_zero, List.nil_append] at e1
  have hlen : (putArr (zeros N) 0 (Lib.byteCells ds)).toList.length = n + 8 := by rw [Array.length_toList, putArr_size, zeros_size, hN]
  rw [putArr_toList _ _ _ (by rw [h2, putArr_size, zeros_size]; omega), h2, List.drop_eq_nil_of_le (by rw [hlen]; omega), List.append_nil, e1, List.take_left' h1, byteCells_append]
/-- What its first line's operations leave. -/
def dwR (g N A0 : Nat) (A : Option Addr) (n c : Nat) (j : Nat) (v : Value) (_ : World) : Prop :=
  match j with
  | 0 => v = .slice (some ⟨g, 0, none⟩) N N
  | 1 => v = .slice (some ⟨g, 0, none⟩) N N
  | 2 => v = .pointer (some ⟨A0, 0, none⟩)
  | _ => v = .slice A n c
/-- And its second line's. -/
def dwR2 (g N A0 n off : Nat) (j : Nat) (v : Value) (_ : World) : Prop :=
  match j with
  | 0 => v = .agg #[]
  | 1 => v = .slice (some ⟨g, 0, none⟩) N N
  | 2 => v = .int .i64 n
  | 3 => v = .slice (some ⟨g, n, none⟩) (N - n) (N - n)
  | 4 => v = .pointer (some ⟨A0, 1, none⟩)
  | _ => v = .int .u64 off

set_option maxHeartbeats 8000000 in
set_option maxRecDepth 100000 in
/-- (index.digestRecord).write. -/
theorem digWrite_calls (g N n c off : Nat) (A : Option Addr) (ds : List UInt8) (w : World) (hr : RdB w A n c ds) (hg : w.heap[g]? = some (.cells (zeros N) 5 (0, 0))) (hN : N = n + 8) (ho : off < 2 ^ 64) (hn : n ≤ 1000000) :
    Calls Tryz.prog 71 #[.agg #[.slice A n c, .int .u64 off], .slice (some ⟨g, 0, none⟩) N N] w fun e w' => e = .returned (.tuple #[]) ∧ (∃ arr, w'.heap[g]? = some (.cells arr 5 (0, 0)) ∧ arr.toList = Lib.byteCells (ds ++ Lib.leBytes 8 off)) ∧ w.heap.size ≤ w'.heap.size ∧ ∀ B, B ≤ g → Below B w w' := by
  have hl := hr.len
  have hlt := (Array.getElem?_eq_some_iff.1 hg).1
  have HB0 := Kp.mk (fun o => bel_alloc (Below.refl w.heap.size w) o)
  have HN0 := Kp.mk (fun o => blk_new (w := w) (o := o) (Below.refl _ _))
  have HX := Kp.mk (And.intro hr (And.intro hg (And.intro ho (And.intro hn (And.intro hl hlt)))))
  have HNN := Kp.mk hN
  clear hr hg hN ho hn hl
  go_enter Tryz.func71, Tryz.ntmps71
  go_wp2_with fail
  have HB1 := Kp.mk (HB0.out (.cells #[.slice A n c, .int .u64 off] 146))
  have HN1 := Kp.mk (HN0.out (.cells #[.slice A n c, .int .u64 off] 146))
  clear HB0 HN0
  obtain ⟨A0, hA0⟩ : ∃ A0, A0 = w.heap.size := ⟨_, rfl⟩
  rw [← hA0] at HN1 ⊢
  have HA0 := Kp.mk hA0
  clear hA0
  generalize w.alloc (.cells #[.slice A n c, .int .u64 off] 146) = w1 at *
  refine wp_region_growR (fun u u' => Below u.heap.size u u') (fun _ => Below.refl _ _) (fun _ _ _ h k => bel_then h k) (by kernel_rfl) 4 (by decide) (apart_of (by kernel_rfl)) (by kernel_rfl) (dwR g N A0 A n c) (fun _ _ _ _ => True) (fun _ _ _ _ h _ => by unfold dwR at *; exact h) ?_ ?_
  · intro j hj ob ho vs w5 hb5 hpre
    have hc0 := blk_cell (blk_keep HN1.out (bel_then (bel_drew (Below.refl w1.heap.size w1)) hb5)) 0
    clear hb5
    rcases j with _ | _ | _ | _ | j
    · obtain rfl := Option.some.inj ho
      simp only [canon, List.range, List.range.loop, List.foldl]
      go_simp
      exact ⟨rfl, Below.refl _ _⟩
    · have e0 : vs 0 = _ := hpre 0 (by decide) (by obtain rfl := Option.some.inj ho; rfl)
      obtain rfl := Option.some.inj ho
      simp only [canon, List.range, List.range.loop, List.foldl]
      go_simp
      exact ⟨rfl, Below.refl _ _⟩
    · obtain rfl := Option.some.inj ho
      simp only [canon, List.range, List.range.loop, List.foldl]
      go_simp
      exact ⟨rfl, Below.refl _ _⟩
    · have e2 : vs 2 = _ := hpre 2 (by decide) (by obtain rfl := Option.some.inj ho; rfl)
      obtain rfl := Option.some.inj ho
      simp only [canon, List.range, List.range.loop, List.foldl]
      go_simp
      exact ⟨rfl, Below.refl _ _⟩
    · omega
  · intro vs w5 hb5 hrr _
    have e1 : vs 1 = _ := hrr 1 (by omega)
    have e3 : vs 3 = _ := hrr 3 (by omega)
    have hb15 := bel_then (bel_drew (Below.refl w1.heap.size w1)) hb5
    have hb05 := bel_then HB1.out hb15
    have hg5 := blk_keep HX.out.2.1 hb05
    have hr5 := HX.out.1.below hb05
    have hz : ∀ j, j < n → w5.cell? ⟨g, 0 + j, none⟩ = some (.int .u8 0) := fun j hj => by rw [Nat.zero_add, blk_cell hg5]; exact zeros_at N j (by have := HNN.out; omega)
    have hcp := copy_bytesM w5 g N n N c A ds hr5 (by have := HNN.out; omega) (fun j hj => by rw [hz j hj]; rfl) (fun j hj => by rw [Nat.zero_add]; exact blk_frozen hg5 j)
    obtain ⟨w6, hw6⟩ : ∃ W, W = w5.setCells g 0 (Lib.byteCells ds) := ⟨_, rfl⟩
    rw [← hw6] at hcp
    have HG6 : Kp (w6.heap[g]? = some (.cells (putArr (zeros N) 0 (Lib.byteCells ds)) 5 (0, 0))) := ⟨by rw [hw6]; exact blk_putCells _ _ _ hg5⟩
    have hex : Ex (· = g) w5 w6 := by rw [hw6]; exact Ex.setCells (P := (· = g)) rfl _ _ (Ex.refl _ _)
    have HA6 : Kp (w6.heap[A0]? = some (.cells #[.slice A n c, .int .u64 off] 146 (0, 0))) := ⟨hex.keep (blk_keep HN1.out hb15) (show ¬ A0 = g by have := HX.out.2.2.2.2.2; have := HA0.out; omega)⟩
    have HF6 : Kp (∀ B, B ≤ g → Below B w w6) := ⟨fun B hB => (hb05.mono (by have := HX.out.2.2.2.2.2; omega)).trans (hex.toBelow (fun j hj e => by omega) (by have := HX.out.2.2.2.2.2; have := hb05.size; omega))⟩
    have HS6 : Kp (w.heap.size ≤ w6.heap.size) := ⟨Nat.le_trans hb05.size hex.size⟩
    have HCP := Kp.mk hcp
    clear hb5 hrr hb15 hb05 hg5 hr5 hz hcp hw6 hex HN1 HB1
    have hcp := HCP.out
    simp only [canon, List.range, List.range.loop, List.foldl]
    refine wpAny_last 4 (by kernel_rfl) ?_
    refine wpOp_go rfl rfl ?_
    go_simp
    refine wpAny_last 5 (by kernel_rfl) ?_
    refine wpOp_go rfl rfl ?_
    go_simp
    refine wpAny_none (by kernel_rfl) ?_ _
    clear hcp HCP e1 e3
    go_wp2_with fail
    refine wp_region_growR (fun u u' => Below u.heap.size u u') (fun _ => Below.refl _ _) (fun _ _ _ h k => bel_then h k) (by kernel_rfl) 6 (by decide) (apart_of (by kernel_rfl)) (by kernel_rfl) (dwR2 g N A0 n off) (fun _ _ _ _ => True) (fun _ _ _ _ h _ => by unfold dwR2 at *; exact h) ?_ ?_
    · intro j hj ob ho vs w7 hb7 hpre
      have hc1 := blk_cell (blk_keep HA6.out (bel_then (bel_drew (Below.refl w6.heap.size w6)) hb7)) 1
      clear hb7
      rcases j with _ | _ | _ | _ | _ | _ | j
      · obtain rfl := Option.some.inj ho
        simp only [canon, List.range, List.range.loop, List.foldl]
        go_simp
        exact ⟨rfl, Below.refl _ _⟩
      · obtain rfl := Option.some.inj ho
        simp only [canon, List.range, List.range.loop, List.foldl]
        go_simp
        exact ⟨rfl, Below.refl _ _⟩
      · obtain rfl := Option.some.inj ho
        simp only [canon, List.range, List.range.loop, List.foldl]
        go_simp
        exact ⟨rfl, Below.refl _ _⟩
      · have e1 : vs 1 = _ := hpre 1 (by decide) (by obtain rfl := Option.some.inj ho; rfl)
        have e2 : vs 2 = _ := hpre 2 (by decide) (by obtain rfl := Option.some.inj ho; rfl)
        have hcut := cutHi 33 Tryz.underlying33 g N n (by have := HNN.out; omega)
        obtain rfl := Option.some.inj ho
        simp only [canon, List.range, List.range.loop, List.foldl]
        go_simp
        exact ⟨rfl, Below.refl _ _⟩
      · obtain rfl := Option.some.inj ho
        simp only [canon, List.range, List.range.loop, List.foldl]
        go_simp
        exact ⟨rfl, Below.refl _ _⟩
      · have e4 : vs 4 = _ := hpre 4 (by decide) (by obtain rfl := Option.some.inj ho; rfl)
        obtain rfl := Option.some.inj ho
        simp only [canon, List.range, List.range.loop, List.foldl]
        go_simp
        exact ⟨rfl, Below.refl _ _⟩
      · omega
    · intro vs w7 hb7 hrr _
      have e0 : vs 0 = _ := hrr 0 (by omega)
      have e3 : vs 3 = _ := hrr 3 (by omega)
      have e5 : vs 5 = _ := hrr 5 (by omega)
      have hb67 := bel_then (bel_drew (Below.refl w6.heap.size w6)) hb7
      have HLP := Kp.mk (lePut64_calls g n (N - n) (N - n) off HX.out.2.2.1 w7 (by have := HNN.out; omega) _ (blk_keep HG6.out hb67) (by rw [putArr_size, zeros_size]; have := HNN.out; omega))
      have HF7 : Kp (w.heap.size ≤ w7.heap.size ∧ ∀ B, B ≤ g → Below B w w7) := ⟨Nat.le_trans HS6.out hb67.size, fun B hB => (HF6.out B hB).trans (hb67.mono (by have := HS6.out; have := HX.out.2.2.2.2.2; omega))⟩
      clear hb7 hrr hb67
      simp only [canon, List.range, List.range.loop, List.foldl]
      refine wpAny_last 6 (by kernel_rfl) ?_
      refine wpOp_go rfl rfl ?_
      go_simp
      refine HLP.out.mono ?_
      rintro e w8 ⟨rfl, hg8, hs8, hf8⟩
      have HE := Kp.mk (And.intro hg8 (And.intro (Nat.le_trans HF7.out.1 hs8) (fun B (hB : B ≤ g) => (HF7.out.2 B hB).trans (hf8 B hB))))
      clear hg8 hs8 hf8 HLP HF7
      simp only
      refine wpAny_none (by kernel_rfl) ?_ _
      go_wp2_with fail
      go_end0
      exact ⟨rfl, ⟨_, HE.out.1, put_dig N n off ds HNN.out HX.out.2.2.2.2.1⟩, HE.out.2.1, HE.out.2.2⟩

end Go.Proofs.YtnhnkfdhkifahaaGreatDoor
