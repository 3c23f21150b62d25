/- The walks of index.WriteTo and impl.written of an index of one row, of both kinds. Printed by gen-wrto.py. -/
import Derived.Test.YtnhnkfdhkifahaaGreatDoorMhMar
import Derived.Test.YtnhnkfdhkifahaaGreatDoorMhEnc
namespace Go.Proofs.YtnhnkfdhkifahaaGreatDoor
open Go.RowKit

theorem cutLo (t : TypeId) (ht : Tryz.prog.underlying t = some (.slice 5)) (g n m : Nat) (hm : m ≤ n) (W : World) :
    (Instr.slice t (.slice (some ⟨g, 0, none⟩) n n) none (some (.int .i64 (m : Int))) none).run Tryz.prog W = .ok (.slice (some ⟨g, 0, none⟩) m n) W := by
  obtain ⟨i, hi, _, hs, _⟩ := info_parts info_u8
  have hel : Tryz.prog.elem t = 5 := by simp [Program.elem, ht]
  have hu : Tryz.prog.underlying t = some (.slice (Tryz.prog.elem t)) := by rw [hel]; exact ht
  rw [run_slice_h W t _ n n hu .i64 (m : Int) (by omega) (by omega), hel]
  simp [sizeOf, typeInfo, hi, hs, sliced, Result.andThen, add_plain]
/-- What its line's first operations leave. -/
def wtR (b g2 : Nat) (j : Nat) (v : Value) (_ : World) : Prop :=
  match j with
  | 0 => v = .iface 65 (.pointer (some ⟨b, 0, none⟩))
  | 1 => v = .slice (some ⟨g2, 0, none⟩) 10 10
  | 2 => v = .int .i64 2
  | 3 => v = .slice (some ⟨g2, 0, none⟩) 2 10
  | 4 => v = .func (Fn.method "Write") #[.iface 65 (.pointer (some ⟨b, 0, none⟩))] #[]
  | 5 => v = .func (Fn.method "Write") #[.iface 65 (.pointer (some ⟨b, 0, none⟩))] #[]
  | _ => v = .iface 65 (.pointer (some ⟨b, 0, none⟩))
def wtR2 (j : Nat) (v : Value) (_ : World) : Prop :=
  match j with
  | 7 => v = .tuple #[.int .i64 2, .nilIface]
  | 8 => v = .tuple #[.int .i64 2, .nilIface]
  | 9 => v = .int .i64 2
  | 10 => v = .nilIface
  | 11 => v = .int .i64 2
  | 12 => v = .nilIface
  | _ => True

set_option maxRecDepth 100000 in
theorem codecA_calls (p : Nat) (w : World) : Calls Tryz.prog 136 #[.pointer (some ⟨p, 0, none⟩)] w fun e w' => e = .returned (.int .u64 1024) ∧ w' = w := by
  go_enter Tryz.func136, Tryz.ntmps136
  go_wp2_with fail
  go_ret
  exact ⟨rfl, rfl⟩
theorem uvA : Lib.uvarint 1024 = [128, 8] := by first | rfl | decide | kernel_rfl
theorem putA : (putArr (zeros 10) 0 (Lib.byteCells (Lib.uvarint 1024))).toList = Lib.byteCells ([128, 8] ++ [0, 0, 0, 0, 0, 0, 0, 0]) := by rw [uvA]; first | rfl | decide | kernel_rfl

set_option maxHeartbeats 8000000 in
set_option maxRecDepth 100000 in
/-- index.WriteTo. -/
theorem writeToA_calls (B b ip gm width len g o n c : Nat) (bs : List UInt8) (w : World) (h : Buf B b [] w) (hBw : B ≤ w.heap.size) (hm : Mw1 B w ip gm width len g o n c bs) (h0 : 0 < n) (hn : n ≤ 1000000) (hw : width < 2 ^ 32) :
    Calls Tryz.prog 20 #[.iface 69 (.pointer (some ⟨ip, 0, none⟩)), .iface 65 (.pointer (some ⟨b, 0, none⟩))] w fun e w' =>
      (∃ m : Int, e = .returned (.tuple #[.int .u64 m, .nilIface])) ∧ Buf B b ([128, 8] ++ (Lib.leBytes 4 1 ++ (Lib.leBytes 4 width ++ Lib.leBytes 8 n ++ bs))) w' ∧ Below B w w' := by
  have hmk : ∀ W : World, (Instr.makeSlice 33 (.int .i64 10) (.int .i64 10)).run Tryz.prog W = .ok (.slice (some ⟨W.heap.size, 0, none⟩) 10 10) (W.alloc (.cells (zeros 10) 5)) := fun W => mk_bytes 33 Tryz.underlying33 10 (by omega) W
  have HX := Kp.mk (And.intro h (And.intro hBw hm))
  have HM := Kp.mk (fun w (hbb : Buf B b [128, 8] w) (hBw : B ≤ w.heap.size) (hm : Mw1 B w ip gm width len g o n c bs) => mwMarshal_calls B b ip gm width len g o n c _ bs w hbb hBw hm h0 hn hw (show (List.length ([128, 8] : List UInt8)) ≤ _ by decide))
  have hmc : ∀ W, (method 318 69 (.pointer (some ⟨ip, 0, none⟩)) "Codec").run Tryz.prog W = .ok (136, .pointer (some ⟨ip, 0, none⟩)) W := fun _ => by kernel_rfl
  have HP : Kp (Calls Tryz.prog 23 #[.slice (some ⟨w.heap.size, 0, none⟩) 10 10, .int .u64 1024] (w.alloc (.cells (zeros 10) 5)) fun e w' => e = .returned (.int .i64 2) ∧ w' = (w.alloc (.cells (zeros 10) 5)).setCells w.heap.size 0 (Lib.byteCells (Lib.uvarint 1024))) := ⟨by
    have := putUv_calls w.heap.size 0 10 10 1024 (by omega) (w.alloc (.cells (zeros 10) 5)) (by rw [uvA]; decide) (fun j hj => new_cells w _ _ j (by rw [uvA] at hj; have : j < 2 := hj; omega))
    rw [show (Lib.uvarint 1024).length = 2 by rw [uvA]; rfl] at this
    exact this⟩
  clear h hBw hm h0 hn hw
  go_enter Tryz.func20, Tryz.ntmps20
  go_wp2_with fail
  refine (codecA_calls ip _).mono ?_
  rintro e w1 ⟨rfl, hw1⟩
  subst hw1
  clear hmc
  go_wp2_with fail
  refine HP.out.mono ?_
  rintro e w2 ⟨rfl, hw2⟩
  have hg2 : w2.heap[w.heap.size]? = some (.cells (putArr (zeros 10) 0 (Lib.byteCells (Lib.uvarint 1024))) 5 (0, 0)) := by rw [hw2]; exact blk_putCells _ _ _ (blk_new (w := w) (o := .cells (zeros 10) 5) (Below.refl _ _))
  have hb2 : Below w.heap.size w w2 := by rw [hw2]; exact belB_sc (Nat.le_refl _) _ _ (bel_alloc (Below.refl _ _) _)
  have hrd : RdB w2 (some ⟨w.heap.size, 0, none⟩) 2 10 [128, 8] := (rd_of_blk (bs := [128, 8] ++ [0, 0, 0, 0, 0, 0, 0, 0]) hg2 putA (by decide)).take 2 (by decide)
  have HR := Kp.mk (And.intro hrd hb2)
  clear hw2 hg2 hb2 hrd HP hmk
  go_wp2_with fail
  refine wp_region_growR (fun u u' => Below u.heap.size u u') (fun _ => Below.refl _ _) (fun _ _ _ h k => bel_then h k) (by kernel_rfl) 7 (by decide) (apart_of (by kernel_rfl)) (by kernel_rfl) (wtR b w.heap.size) (fun _ _ _ _ => True) (fun _ _ _ _ h _ => by unfold wtR at *; exact h) ?_ ?_
  · intro j hj ob ho vs w5 hb5 hpre
    clear hb5
    rcases j with _ | _ | _ | _ | _ | _ | _ | j
    · obtain rfl := Option.some.inj ho
      simp only [canon, List.range, List.range.loop, List.foldl]
      go_simp
      exact ⟨rfl, Below.refl _ _⟩
    · obtain rfl := Option.some.inj ho
      simp only [canon, List.range, List.range.loop, List.foldl]
      go_simp
      exact ⟨rfl, Below.refl _ _⟩
    · obtain rfl := Option.some.inj ho
      simp only [canon, List.range, List.range.loop, List.foldl]
      go_simp
      exact ⟨rfl, Below.refl _ _⟩
    · have e1 : vs 1 = _ := hpre 1 (by decide) (by obtain rfl := Option.some.inj ho; rfl)
      have e2 : vs 2 = _ := hpre 2 (by decide) (by obtain rfl := Option.some.inj ho; rfl)
      have hcut := cutLo 33 Tryz.underlying33 w.heap.size 10 2 (by omega)
      obtain rfl := Option.some.inj ho
      simp only [canon, List.range, List.range.loop, List.foldl]
      go_simp
      exact ⟨rfl, Below.refl _ _⟩
    · have e0 : vs 0 = _ := hpre 0 (by decide) (by obtain rfl := Option.some.inj ho; rfl)
      obtain rfl := Option.some.inj ho
      simp only [canon, List.range, List.range.loop, List.foldl]
      go_simp
      exact ⟨rfl, Below.refl _ _⟩
    · have e4 : vs 4 = _ := hpre 4 (by decide) (by obtain rfl := Option.some.inj ho; rfl)
      obtain rfl := Option.some.inj ho
      simp only [canon, List.range, List.range.loop, List.foldl]
      go_simp
      have hna : (nilAhead 318 65 (.pointer (some ⟨b, 0, none⟩)) "Write").run Tryz.prog w5 = .ok (some false) w5 := by kernel_rfl
      rw [hna]
      go_simp
      exact ⟨rfl, Below.refl _ _⟩
    · have e0 : vs 0 = _ := hpre 0 (by decide) (by obtain rfl := Option.some.inj ho; rfl)
      obtain rfl := Option.some.inj ho
      simp only [canon, List.range, List.range.loop, List.foldl]
      go_simp
      exact ⟨rfl, Below.refl _ _⟩
    · omega
  · intro vs w5 hb5 hrr _
    have e3 : vs 3 = _ := hrr 3 (by omega)
    have e6 : vs 6 = _ := hrr 6 (by omega)
    have hb25 := bel_then (bel_drew (Below.refl w2.heap.size w2)) hb5
    have hb05 := bel_then HR.out.2 hb25
    have hblt : b < w.heap.size := HX.out.1.lt
    have HW := Kp.mk (bufWrite_calls B b [] w.heap.size 0 2 10 [128, 8] w5 (HX.out.1.below hb05) (HR.out.1.below hb25) (by omega) (by omega) (Nat.le_trans HX.out.2.1 hb05.size) (by decide))
    have HB5 := Kp.mk (hb05.mono HX.out.2.1)
    clear hb5 hrr hb25 hb05 hblt HR
    simp only [canon, List.range, List.range.loop, List.foldl]
    refine wpAny_last 7 (by kernel_rfl) ?_
    refine wpOp_go rfl rfl ?_
    have hm : ∀ W, (method 318 65 (.pointer (some ⟨b, 0, none⟩)) "Write").run Tryz.prog W = .ok (131, .pointer (some ⟨b, 0, none⟩)) W := fun _ => by kernel_rfl
    go_simp
    clear hm
    refine HW.out.mono ?_
    rintro e w6 ⟨rfl, hbf, hbl, -⟩
    have HE := Kp.mk (And.intro hbf (HB5.out.trans hbl))
    clear hbf hbl HW HB5
    simp only
    refine wpAny_restR (fun u u' => Below u.heap.size u u') (fun _ => Below.refl _ _) (fun _ _ _ h k => bel_then h k) 8 13 rfl (by decide) (apart_of (by kernel_rfl)) (by kernel_rfl) wtR2 (fun _ _ _ _ h _ => by unfold wtR2 at *; exact h) ?_ ?_ ?_
    · intro i hi
      rcases i with _ | _ | _ | _ | _ | _ | _ | _ | i
      all_goals first | trivial | rfl | omega
    · intro j hkj hj ob ho vs w7 hb hpre
      rcases j with _ | _ | _ | _ | _ | _ | _ | _ | _ | _ | _ | _ | _ | j
      iterate 8 (· omega)
      · have e7 : vs 7 = _ := hpre 7 (by decide) (by obtain rfl := Option.some.inj ho; rfl)
        obtain rfl := Option.some.inj ho
        simp only [canon, List.range, List.range.loop, List.foldl]
        go_simp
        exact ⟨rfl, Below.refl _ _⟩
      · have e8 : vs 8 = _ := hpre 8 (by decide) (by obtain rfl := Option.some.inj ho; rfl)
        obtain rfl := Option.some.inj ho
        simp only [canon, List.range, List.range.loop, List.foldl]
        go_simp
        exact ⟨rfl, Below.refl _ _⟩
      · have e8 : vs 8 = _ := hpre 8 (by decide) (by obtain rfl := Option.some.inj ho; rfl)
        obtain rfl := Option.some.inj ho
        simp only [canon, List.range, List.range.loop, List.foldl]
        go_simp
        exact ⟨rfl, Below.refl _ _⟩
      · have e9 : vs 9 = _ := hpre 9 (by decide) (by obtain rfl := Option.some.inj ho; rfl)
        obtain rfl := Option.some.inj ho
        simp only [canon, List.range, List.range.loop, List.foldl]
        go_simp
        exact ⟨rfl, Below.refl _ _⟩
      · have e10 : vs 10 = _ := hpre 10 (by decide) (by obtain rfl := Option.some.inj ho; rfl)
        obtain rfl := Option.some.inj ho
        simp only [canon, List.range, List.range.loop, List.foldl]
        go_simp
        exact ⟨rfl, Below.refl _ _⟩
      · omega
    · intro vs w7 hb hr
      have e11 : vs 11 = _ := hr 11 (by omega)
      have e12 : vs 12 = _ := hr 12 (by omega)
      have hs6 : B ≤ w6.heap.size := Nat.le_trans HX.out.2.1 HE.out.2.size
      have hb7 : Below B w w7 := HE.out.2.trans (hb.mono hs6)
      have HMM := Kp.mk (HM.out w7 (HE.out.1.below hb) (Nat.le_trans hs6 hb.size) (HX.out.2.2.belowB hb7))
      have HB7 := Kp.mk hb7
      have hmm : ∀ W, (method 318 69 (.pointer (some ⟨ip, 0, none⟩)) "Marshal").run Tryz.prog W = .ok (75, .pointer (some ⟨ip, 0, none⟩)) W := fun _ => by kernel_rfl
      clear hb hr HE hs6 hb7 HM
      simp only [canon, List.range, List.range.loop, List.foldl]
      rw [e11, e12]
      clear e11 e12
      go_simp
      go_wp2_with fail
      refine HMM.out.mono ?_
      rintro e w8 ⟨⟨m, rfl⟩, hbf, hbl, -⟩
      have HF := Kp.mk (And.intro hbf (HB7.out.trans hbl))
      clear hbf hbl HMM hmm
      go_wp2_with fail
      refine bodyPost_ret (results_tmp2 rfl _ _ _) rfl ?_
      refine ⟨⟨_, rfl⟩, ?_, HF.out.2⟩
      have := HF.out.1
      rwa [List.append_assoc] at this

set_option maxRecDepth 100000 in
theorem codecB_calls (p : Nat) (w : World) : Calls Tryz.prog 56 #[.pointer (some ⟨p, 0, none⟩)] w fun e w' => e = .returned (.int .u64 1025) ∧ w' = w := by
  go_enter Tryz.func56, Tryz.ntmps56
  go_wp2_with fail
  go_ret
  exact ⟨rfl, rfl⟩
theorem uvB : Lib.uvarint 1025 = [129, 8] := by first | rfl | decide | kernel_rfl
theorem putB : (putArr (zeros 10) 0 (Lib.byteCells (Lib.uvarint 1025))).toList = Lib.byteCells ([129, 8] ++ [0, 0, 0, 0, 0, 0, 0, 0]) := by rw [uvB]; first | rfl | decide | kernel_rfl

set_option maxHeartbeats 8000000 in
set_option maxRecDepth 100000 in
/-- index.WriteTo. -/
theorem writeToB_calls (B b im gM ic code gm width len g o n c : Nat) (bs : List UInt8) (w : World) (h : Buf B b [] w) (hBw : B ≤ w.heap.size) (hm : Mi1 B w im gM ic code gm width len g o n c bs) (hcd : code < 2 ^ 64) (h0 : 0 < n) (hn : n ≤ 1000000) (hw : width < 2 ^ 32) :
    Calls Tryz.prog 20 #[.iface 52 (.pointer (some ⟨im, 0, none⟩)), .iface 65 (.pointer (some ⟨b, 0, none⟩))] w fun e w' =>
      (∃ m : Int, e = .returned (.tuple #[.int .u64 m, .nilIface])) ∧ Buf B b ([129, 8] ++ (Lib.leBytes 4 1 ++ (Lib.leBytes 8 code ++ Lib.leBytes 4 1 ++ (Lib.leBytes 4 width ++ Lib.leBytes 8 n ++ bs)))) w' ∧ Below B w w' := by
  have hmk : ∀ W : World, (Instr.makeSlice 33 (.int .i64 10) (.int .i64 10)).run Tryz.prog W = .ok (.slice (some ⟨W.heap.size, 0, none⟩) 10 10) (W.alloc (.cells (zeros 10) 5)) := fun W => mk_bytes 33 Tryz.underlying33 10 (by omega) W
  have HX := Kp.mk (And.intro h (And.intro hBw hm))
  have HM := Kp.mk (fun w (hbb : Buf B b [129, 8] w) (hBw : B ≤ w.heap.size) (hm : Mi1 B w im gM ic code gm width len g o n c bs) => miMarshal_calls B b im gM ic code gm width len g o n c _ bs w hbb hBw hm hcd h0 hn hw (show (List.length ([129, 8] : List UInt8)) ≤ _ by decide))
  have hmc : ∀ W, (method 318 52 (.pointer (some ⟨im, 0, none⟩)) "Codec").run Tryz.prog W = .ok (56, .pointer (some ⟨im, 0, none⟩)) W := fun _ => by kernel_rfl
  have HP : Kp (Calls Tryz.prog 23 #[.slice (some ⟨w.heap.size, 0, none⟩) 10 10, .int .u64 1025] (w.alloc (.cells (zeros 10) 5)) fun e w' => e = .returned (.int .i64 2) ∧ w' = (w.alloc (.cells (zeros 10) 5)).setCells w.heap.size 0 (Lib.byteCells (Lib.uvarint 1025))) := ⟨by
    have := putUv_calls w.heap.size 0 10 10 1025 (by omega) (w.alloc (.cells (zeros 10) 5)) (by rw [uvB]; decide) (fun j hj => new_cells w _ _ j (by rw [uvB] at hj; have : j < 2 := hj; omega))
    rw [show (Lib.uvarint 1025).length = 2 by rw [uvB]; rfl] at this
    exact this⟩
  clear h hBw hm h0 hn hw hcd
  go_enter Tryz.func20, Tryz.ntmps20
  go_wp2_with fail
  refine (codecB_calls im _).mono ?_
  rintro e w1 ⟨rfl, hw1⟩
  subst hw1
  clear hmc
  go_wp2_with fail
  refine HP.out.mono ?_
  rintro e w2 ⟨rfl, hw2⟩
  have hg2 : w2.heap[w.heap.size]? = some (.cells (putArr (zeros 10) 0 (Lib.byteCells (Lib.uvarint 1025))) 5 (0, 0)) := by rw [hw2]; exact blk_putCells _ _ _ (blk_new (w := w) (o := .cells (zeros 10) 5) (Below.refl _ _))
  have hb2 : Below w.heap.size w w2 := by rw [hw2]; exact belB_sc (Nat.le_refl _) _ _ (bel_alloc (Below.refl _ _) _)
  have hrd : RdB w2 (some ⟨w.heap.size, 0, none⟩) 2 10 [129, 8] := (rd_of_blk (bs := [129, 8] ++ [0, 0, 0, 0, 0, 0, 0, 0]) hg2 putB (by decide)).take 2 (by decide)
  have HR := Kp.mk (And.intro hrd hb2)
  clear hw2 hg2 hb2 hrd HP hmk
  go_wp2_with fail
  refine wp_region_growR (fun u u' => Below u.heap.size u u') (fun _ => Below.refl _ _) (fun _ _ _ h k => bel_then h k) (by kernel_rfl) 7 (by decide) (apart_of (by kernel_rfl)) (by kernel_rfl) (wtR b w.heap.size) (fun _ _ _ _ => True) (fun _ _ _ _ h _ => by unfold wtR at *; exact h) ?_ ?_
  · intro j hj ob ho vs w5 hb5 hpre
    clear hb5
    rcases j with _ | _ | _ | _ | _ | _ | _ | j
    · obtain rfl := Option.some.inj ho
      simp only [canon, List.range, List.range.loop, List.foldl]
      go_simp
      exact ⟨rfl, Below.refl _ _⟩
    · obtain rfl := Option.some.inj ho
      simp only [canon, List.range, List.range.loop, List.foldl]
      go_simp
      exact ⟨rfl, Below.refl _ _⟩
    · obtain rfl := Option.some.inj ho
      simp only [canon, List.range, List.range.loop, List.foldl]
      go_simp
      exact ⟨rfl, Below.refl _ _⟩
    · have e1 : vs 1 = _ := hpre 1 (by decide) (by obtain rfl := Option.some.inj ho; rfl)
      have e2 : vs 2 = _ := hpre 2 (by decide) (by obtain rfl := Option.some.inj ho; rfl)
      have hcut := cutLo 33 Tryz.underlying33 w.heap.size 10 2 (by omega)
      obtain rfl := Option.some.inj ho
      simp only [canon, List.range, List.range.loop, List.foldl]
      go_simp
      exact ⟨rfl, Below.refl _ _⟩
    · have e0 : vs 0 = _ := hpre 0 (by decide) (by obtain rfl := Option.some.inj ho; rfl)
      obtain rfl := Option.some.inj ho
      simp only [canon, List.range, List.range.loop, List.foldl]
      go_simp
      exact ⟨rfl, Below.refl _ _⟩
    · have e4 : vs 4 = _ := hpre 4 (by decide) (by obtain rfl := Option.some.inj ho; rfl)
      obtain rfl := Option.some.inj ho
      simp only [canon, List.range, List.range.loop, List.foldl]
      go_simp
      have hna : (nilAhead 318 65 (.pointer (some ⟨b, 0, none⟩)) "Write").run Tryz.prog w5 = .ok (some false) w5 := by kernel_rfl
      rw [hna]
      go_simp
      exact ⟨rfl, Below.refl _ _⟩
    · have e0 : vs 0 = _ := hpre 0 (by decide) (by obtain rfl := Option.some.inj ho; rfl)
      obtain rfl := Option.some.inj ho
      simp only [canon, List.range, List.range.loop, List.foldl]
      go_simp
      exact ⟨rfl, Below.refl _ _⟩
    · omega
  · intro vs w5 hb5 hrr _
    have e3 : vs 3 = _ := hrr 3 (by omega)
    have e6 : vs 6 = _ := hrr 6 (by omega)
    have hb25 := bel_then (bel_drew (Below.refl w2.heap.size w2)) hb5
    have hb05 := bel_then HR.out.2 hb25
    have hblt : b < w.heap.size := HX.out.1.lt
    have HW := Kp.mk (bufWrite_calls B b [] w.heap.size 0 2 10 [129, 8] w5 (HX.out.1.below hb05) (HR.out.1.below hb25) (by omega) (by omega) (Nat.le_trans HX.out.2.1 hb05.size) (by decide))
    have HB5 := Kp.mk (hb05.mono HX.out.2.1)
    clear hb5 hrr hb25 hb05 hblt HR
    simp only [canon, List.range, List.range.loop, List.foldl]
    refine wpAny_last 7 (by kernel_rfl) ?_
    refine wpOp_go rfl rfl ?_
    have hm : ∀ W, (method 318 65 (.pointer (some ⟨b, 0, none⟩)) "Write").run Tryz.prog W = .ok (131, .pointer (some ⟨b, 0, none⟩)) W := fun _ => by kernel_rfl
    go_simp
    clear hm
    refine HW.out.mono ?_
    rintro e w6 ⟨rfl, hbf, hbl, -⟩
    have HE := Kp.mk (And.intro hbf (HB5.out.trans hbl))
    clear hbf hbl HW HB5
    simp only
    refine wpAny_restR (fun u u' => Below u.heap.size u u') (fun _ => Below.refl _ _) (fun _ _ _ h k => bel_then h k) 8 13 rfl (by decide) (apart_of (by kernel_rfl)) (by kernel_rfl) wtR2 (fun _ _ _ _ h _ => by unfold wtR2 at *; exact h) ?_ ?_ ?_
    · intro i hi
      rcases i with _ | _ | _ | _ | _ | _ | _ | _ | i
      all_goals first | trivial | rfl | omega
    · intro j hkj hj ob ho vs w7 hb hpre
      rcases j with _ | _ | _ | _ | _ | _ | _ | _ | _ | _ | _ | _ | _ | j
      iterate 8 (· omega)
      · have e7 : vs 7 = _ := hpre 7 (by decide) (by obtain rfl := Option.some.inj ho; rfl)
        obtain rfl := Option.some.inj ho
        simp only [canon, List.range, List.range.loop, List.foldl]
        go_simp
        exact ⟨rfl, Below.refl _ _⟩
      · have e8 : vs 8 = _ := hpre 8 (by decide) (by obtain rfl := Option.some.inj ho; rfl)
        obtain rfl := Option.some.inj ho
        simp only [canon, List.range, List.range.loop, List.foldl]
        go_simp
        exact ⟨rfl, Below.refl _ _⟩
      · have e8 : vs 8 = _ := hpre 8 (by decide) (by obtain rfl := Option.some.inj ho; rfl)
        obtain rfl := Option.some.inj ho
        simp only [canon, List.range, List.range.loop, List.foldl]
        go_simp
        exact ⟨rfl, Below.refl _ _⟩
      · have e9 : vs 9 = _ := hpre 9 (by decide) (by obtain rfl := Option.some.inj ho; rfl)
        obtain rfl := Option.some.inj ho
        simp only [canon, List.range, List.range.loop, List.foldl]
        go_simp
        exact ⟨rfl, Below.refl _ _⟩
      · have e10 : vs 10 = _ := hpre 10 (by decide) (by obtain rfl := Option.some.inj ho; rfl)
        obtain rfl := Option.some.inj ho
        simp only [canon, List.range, List.range.loop, List.foldl]
        go_simp
        exact ⟨rfl, Below.refl _ _⟩
      · omega
    · intro vs w7 hb hr
      have e11 : vs 11 = _ := hr 11 (by omega)
      have e12 : vs 12 = _ := hr 12 (by omega)
      have hs6 : B ≤ w6.heap.size := Nat.le_trans HX.out.2.1 HE.out.2.size
      have hb7 : Below B w w7 := HE.out.2.trans (hb.mono hs6)
      have HMM := Kp.mk (HM.out w7 (HE.out.1.below hb) (Nat.le_trans hs6 hb.size) (HX.out.2.2.belowB hb7))
      have HB7 := Kp.mk hb7
      have hmm : ∀ W, (method 318 52 (.pointer (some ⟨im, 0, none⟩)) "Marshal").run Tryz.prog W = .ok (59, .pointer (some ⟨im, 0, none⟩)) W := fun _ => by kernel_rfl
      clear hb hr HE hs6 hb7 HM
      simp only [canon, List.range, List.range.loop, List.foldl]
      rw [e11, e12]
      clear e11 e12
      go_simp
      go_wp2_with fail
      refine HMM.out.mono ?_
      rintro e w8 ⟨⟨m, rfl⟩, hbf, hbl, -⟩
      have HF := Kp.mk (And.intro hbf (HB7.out.trans hbl))
      clear hbf hbl HMM hmm
      go_wp2_with fail
      refine bodyPost_ret (results_tmp2 rfl _ _ _) rfl ?_
      refine ⟨⟨_, rfl⟩, ?_, HF.out.2⟩
      have := HF.out.1
      rwa [List.append_assoc] at this

set_option maxHeartbeats 4000000 in
set_option maxRecDepth 100000 in
/-- impl.written of an index that was loaded. -/
theorem writtenA_calls (ip gm width len g o n c : Nat) (bs : List UInt8) (w : World) (hm : Mw1 w.heap.size w ip gm width len g o n c bs) (h0 : 0 < n) (hn : n ≤ 1000000) (hw : width < 2 ^ 32) :
    Calls Tryz.prog 12 #[.iface 69 (.pointer (some ⟨ip, 0, none⟩)), .nilIface] w fun e w' => e = .returned (.tuple #[.string (strB ([128, 8] ++ (Lib.leBytes 4 1 ++ (Lib.leBytes 4 width ++ Lib.leBytes 8 n ++ bs)))), .bool true]) ∧ Below w.heap.size w w' := by
  have hal := bel_alloc (Below.refl w.heap.size w) (.cells #[.slice none 0 0, .int .i64 0, .int .i8 0] 62)
  have HWT := Kp.mk (writeToA_calls w.heap.size w.heap.size ip gm width len g o n c bs (w.alloc (.cells #[.slice none 0 0, .int .i64 0, .int .i8 0] 62)) (show Buf w.heap.size w.heap.size [] _ from Lib.fresh_isBuffer 62 5 w) hal.size (hm.belowB hal) h0 hn hw)
  have HB := Kp.mk hal
  clear hal hm h0 hn hw
  go_enter Tryz.func12, Tryz.ntmps12
  go_wp2_with fail
  refine HWT.out.mono ?_
  rintro e w1 ⟨⟨m, rfl⟩, hbf, hbl⟩
  have HS := Kp.mk (Tryz.Buffer_String _ _ _ w1 hbf)
  have HB1 := Kp.mk (HB.out.trans hbl)
  clear hbf hbl HWT HB
  go_wp2_with fail
  refine HS.out.mono ?_
  rintro e w2 ⟨rfl, k, rfl⟩
  clear HS
  go_wp2_with fail
  refine bodyPost_ret (results_tmp2 rfl _ _ _) rfl ?_
  exact ⟨rfl, bel_drewN HB1.out _⟩

set_option maxHeartbeats 4000000 in
set_option maxRecDepth 100000 in
/-- impl.written of an index that was loaded. -/
theorem writtenB_calls (im gM ic code gm width len g o n c : Nat) (bs : List UInt8) (w : World) (hm : Mi1 w.heap.size w im gM ic code gm width len g o n c bs) (hcd : code < 2 ^ 64) (h0 : 0 < n) (hn : n ≤ 1000000) (hw : width < 2 ^ 32) :
    Calls Tryz.prog 12 #[.iface 52 (.pointer (some ⟨im, 0, none⟩)), .nilIface] w fun e w' => e = .returned (.tuple #[.string (strB ([129, 8] ++ (Lib.leBytes 4 1 ++ (Lib.leBytes 8 code ++ Lib.leBytes 4 1 ++ (Lib.leBytes 4 width ++ Lib.leBytes 8 n ++ bs))))), .bool true]) ∧ Below w.heap.size w w' := by
  have hal := bel_alloc (Below.refl w.heap.size w) (.cells #[.slice none 0 0, .int .i64 0, .int .i8 0] 62)
  have HWT := Kp.mk (writeToB_calls w.heap.size w.heap.size im gM ic code gm width len g o n c bs (w.alloc (.cells #[.slice none 0 0, .int .i64 0, .int .i8 0] 62)) (show Buf w.heap.size w.heap.size [] _ from Lib.fresh_isBuffer 62 5 w) hal.size (hm.belowB hal) hcd h0 hn hw)
  have HB := Kp.mk hal
  clear hal hm h0 hn hw hcd
  go_enter Tryz.func12, Tryz.ntmps12
  go_wp2_with fail
  refine HWT.out.mono ?_
  rintro e w1 ⟨⟨m, rfl⟩, hbf, hbl⟩
  have HS := Kp.mk (Tryz.Buffer_String _ _ _ w1 hbf)
  have HB1 := Kp.mk (HB.out.trans hbl)
  clear hbf hbl HWT HB
  go_wp2_with fail
  refine HS.out.mono ?_
  rintro e w2 ⟨rfl, k, rfl⟩
  clear HS
  go_wp2_with fail
  refine bodyPost_ret (results_tmp2 rfl _ _ _) rfl ?_
  exact ⟨rfl, bel_drewN HB1.out _⟩

end Go.Proofs.YtnhnkfdhkifahaaGreatDoor
