/- The walks of io.ReadAtLeast and io.ReadFull over a bytes.Reader with fewer bytes than are asked for, or where none is asked for. -/
import Derived.Test.YtldhnabhojfmiaaDoorRRdA
import Derived.Test.YtldhnabhojfmiaaDoorRRdUv
import Derived.Handy
namespace Go.Proofs.YtldhnabhojfmiaaDoorR
open Go.RowKit

/-- What operations 0 to 6 of the reading region leave, with nn bytes read. -/
def rlG (g gd o m cm nn : Nat) (j : Nat) (v : Value) (_ : World) : Prop :=
  match j with
  | 0 => v = .iface 77 (.pointer (some ⟨g, 0, none⟩))
  | 1 => v = .slice (some ⟨gd, o, none⟩) m cm
  | 2 => v = .int .i64 nn
  | 3 => v = .slice (some ⟨gd, o + nn, none⟩) (m - nn) (cm - nn)
  | 4 => v = .func (Fn.method "Read") #[.iface 77 (.pointer (some ⟨g, 0, none⟩))] #[]
  | 5 => v = .func (Fn.method "Read") #[.iface 77 (.pointer (some ⟨g, 0, none⟩))] #[]
  | 6 => v = .iface 77 (.pointer (some ⟨g, 0, none⟩))
  | _ => True
theorem cut_off (t : TypeId) (kl : IntKind) (ht : Tryd.prog.underlying t = some (.slice 5)) (g o n c m : Nat) (hm : m < n) (hc : n ≤ c) (W : World) :
    (Instr.slice t (.slice (some ⟨g, o, none⟩) n c) (some (.int kl (m : Int))) none none).run Tryd.prog W = .ok (.slice (some ⟨g, o + m, none⟩) (n - m) (c - m)) W := by
  obtain ⟨i, hi, _, hs, _⟩ := info_parts info_u8
  have hel : Tryd.prog.elem t = 5 := by simp [Program.elem, ht]
  have hu : Tryd.prog.underlying t = some (.slice (Tryd.prog.elem t)) := by rw [hel]; exact ht
  rw [run_slice_l W t _ n c hu kl (m : Int) (Int.natCast_nonneg _) (by omega), hel]
  have hne : ¬ c = m := by omega
  simp [sizeOf, typeInfo, hi, hs, sliced, Result.andThen, hne, add_plain]
def nilOne (v : Value) : Nat := match v with | .nilIface => 1 | _ => 0

set_option maxHeartbeats 8000000 in
set_option maxRecDepth 100000 in
/-- io.ReadAtLeast, where some bytes are there, but fewer than are asked for. -/
theorem readLess_calls (g ga gd n c o m cm k i : Nat) (q : Int) (bs : List UInt8) (cs : Array Value) (ve vu vo vn : Value) (w : World) (hg : RdrAt w g ga n c i q) (hr : RdB w (some ⟨ga, 0, none⟩) n c bs) (hag : ga < g) (hgd : g < gd)
    (hd : w.heap[gd]? = some (.cells cs 5 (0, 0))) (hos : o + m ≤ cs.size) (hmc : m ≤ cm) (hk : 0 < k) (hkm : k < m) (hki : i + k = n) (hm : m ≤ 4611686018427387904) (hn : n ≤ 4611686018427387904) (he : ∀ w', Ex (fun k => k = g ∨ k = gd) w w' → RdErrs ve vu vo vn w') :
    Calls Tryd.prog 79 #[.iface 77 (.pointer (some ⟨g, 0, none⟩)), .slice (some ⟨gd, o, none⟩) m cm, .int .i64 m] w fun e w' => (e = .returned (.tuple #[.int .i64 k, vu]) ∧ ∃ q', RdrAt w' g ga n c n q') ∧ Ex (fun k => k = g ∨ k = gd) w w' := by
  have hDr : ∀ {wr w2 : World}, Below wr.drew.heap.size wr.drew w2 → Below wr.heap.size wr w2 := fun h => bel_then (bel_drew (Below.refl _ _)) h
  have hmk : m - 0 = m := Nat.sub_zero m
  have he0 := he w (Ex.refl _ _)
  obtain ⟨Te, ue, rfl⟩ := he0.eofE.iface
  obtain ⟨Tu, uu, rfl⟩ := he0.ueofE.iface
  have hq := errV_same he0.eofE
  have HW := Kp.mk (And.intro hg (And.intro hr hd))
  have HX := Kp.mk (And.intro hag (And.intro hgd (And.intro hki (And.intro hn (And.intro hm (And.intro hos (And.intro hk hkm)))))))
  have HE := Kp.mk he
  clear hg hr hd hag hgd hn he he0 hki hos
  go_enter Tryd.func79, Tryd.ntmps79
  go_wp2
  go_loopw [6, 7] (fun vn ve' wr => (vn = .int .i64 0 ∧ ve' = .nilIface ∧ Kp (RdrAt wr g ga n c i q ∧ RdB wr (some ⟨ga, 0, none⟩) n c bs ∧ wr.heap[gd]? = some (.cells cs 5 (0, 0)) ∧ Ex (fun k => k = g ∨ k = gd) w wr)) ∨ (vn = .int .i64 k ∧ ve' = .nilIface ∧ Kp (RdrAt wr g ga n c n (-1) ∧ Ex (fun k => k = g ∨ k = gd) w wr)) ∨ (vn = .int .i64 k ∧ ve' = .iface Te ue ∧ Kp (RdrAt wr g ga n c n (-1) ∧ Ex (fun k => k = g ∨ k = gd) w wr)))
    (fun vn ve' _ => 2 * (m - (intOf vn).toNat) + nilOne ve')
  case atStart => exact .inl ⟨rfl, rfl, ⟨HW.out.1, HW.out.2.1, HW.out.2.2, Ex.refl _ _⟩⟩
  case round =>
    obtain ⟨rfl, rfl, hk1⟩ | ⟨rfl, rfl, hk1⟩ | ⟨rfl, rfl, hk1⟩ := hrel
    · go_wp2_with fail
      refine wp_region_grow (by kernel_rfl) 7 (by decide) (apart_of (by kernel_rfl)) (by kernel_rfl) (rlG g gd o m cm 0) (fun _ _ _ _ => True) (fun _ _ _ _ h _ => by unfold rlG at *; exact h) ?_ ?_
      · intro j hj ob ho vs w2 hb hpre
        rcases j with _ | _ | _ | _ | _ | _ | _ | j
        · obtain rfl := Option.some.inj ho
          simp only [canon, List.range, List.range.loop, List.foldl]
          go_simp
          exact ⟨rfl, Below.refl _ _⟩
        · obtain rfl := Option.some.inj ho
          simp only [canon, List.range, List.range.loop, List.foldl]
          go_simp
          exact ⟨rfl, Below.refl _ _⟩
        · obtain rfl := Option.some.inj ho
          simp only [canon, List.range, List.range.loop, List.foldl]
          go_simp
          exact ⟨rfl, Below.refl _ _⟩
        · obtain rfl := Option.some.inj ho
          have e1 : vs 1 = _ := hpre 1 (by decide) rfl
          have e2 : vs 2 = _ := hpre 2 (by decide) rfl
          have hcut := fun W => cut_off 71 .i64 Tryd.underlying71 gd o m cm 0 (by omega) (by omega) W
          simp only [canon, List.range, List.range.loop, List.foldl]
          go_simp
          exact ⟨rfl, Below.refl _ _⟩
        · obtain rfl := Option.some.inj ho
          have e0 : vs 0 = _ := hpre 0 (by decide) rfl
          simp only [canon, List.range, List.range.loop, List.foldl]
          go_simp
          exact ⟨rfl, Below.refl _ _⟩
        · obtain rfl := Option.some.inj ho
          have e4 : vs 4 = _ := hpre 4 (by decide) rfl
          simp only [canon, List.range, List.range.loop, List.foldl]
          go_simp
          have hna : (nilAhead 302 77 (.pointer (some ⟨g, 0, none⟩)) "Read").run Tryd.prog w2 = .ok (some false) w2 := by kernel_rfl
          rw [hna]
          go_simp
          exact ⟨rfl, Below.refl _ _⟩
        · obtain rfl := Option.some.inj ho
          have e0 : vs 0 = _ := hpre 0 (by decide) rfl
          simp only [canon, List.range, List.range.loop, List.foldl]
          go_simp
          exact ⟨rfl, Below.refl _ _⟩
        · omega
      · intro vs w2 hb hr hd
        have e3 : vs 3 = _ := hr 3 (by omega)
        have e6 : vs 6 = _ := hr 6 (by omega)
        simp only [canon, List.range, List.range.loop, List.foldl]
        refine wpAny_last 7 (by kernel_rfl) ?_
        refine wpOp_go rfl rfl ?_
        go_simp
        go_upon
        refine (readG_calls g ga gd n c o m cm k i q bs cs w2 (blk_keep hk1.out.1 (hDr hb)) (hk1.out.2.1.below (hDr hb)) HX.out.1 HX.out.2.1 (blk_keep hk1.out.2.2.1 (hDr hb)) HX.out.2.2.2.2.2.1 hk (by omega) (by have := HX.out; omega) (.inr HX.out.2.2.1) hm HX.out.2.2.2.1).mono ?_
        rintro e w3 ⟨⟨rfl, h1, _⟩, h3⟩
        rw [HX.out.2.2.1] at h1
        have HK3 : Kp (RdrAt w3 g ga n c n (-1) ∧ Ex (fun k => k = g ∨ k = gd) w w3) := ⟨h1, (hk1.out.2.2.2.trans (Ex.of_below (hDr hb))).trans h3⟩
        clear h1 h3 hb hr hd hk1
        simp only
        refine wpAny_last 8 (by kernel_rfl) ?_
        refine wpOp_go rfl rfl ?_
        go_simp
        refine wpAny_two 9 10 (by kernel_rfl) ?_ ?_
        · refine wpOp_go rfl rfl ?_
          go_simp
          refine wpAny_two 10 11 (by kernel_rfl) ?_ ?_
          · refine wpOp_go rfl rfl ?_
            go_simp
            refine wpAny_last 11 (by kernel_rfl) ?_
            refine wpOp_go rfl rfl ?_
            go_simp
            refine wpAny_last 12 (by kernel_rfl) ?_
            refine wpOp_go rfl rfl ?_
            go_simp
            refine wpAny_none (by kernel_rfl) ?_ _
            go_wp2
            go_roundw
            case rel => exact .inr (.inl ⟨by simp, rfl, HK3⟩)
            case measure => simp only [intOf, nilOne]; omega
          · refine wpOp_go rfl rfl ?_
            go_simp
            refine wpAny_last 10 (by kernel_rfl) ?_
            refine wpOp_go rfl rfl ?_
            go_simp
            refine wpAny_last 12 (by kernel_rfl) ?_
            refine wpOp_go rfl rfl ?_
            go_simp
            refine wpAny_none (by kernel_rfl) ?_ _
            go_wp2
            go_roundw
            case rel => exact .inr (.inl ⟨by simp, rfl, HK3⟩)
            case measure => simp only [intOf, nilOne]; omega
        · refine wpOp_go rfl rfl ?_
          go_simp
          refine wpAny_last 9 (by kernel_rfl) ?_
          refine wpOp_go rfl rfl ?_
          go_simp
          refine wpAny_last 11 (by kernel_rfl) ?_
          refine wpOp_go rfl rfl ?_
          go_simp
          refine wpAny_last 12 (by kernel_rfl) ?_
          refine wpOp_go rfl rfl ?_
          go_simp
          refine wpAny_none (by kernel_rfl) ?_ _
          go_wp2
          go_roundw
          case rel => exact .inr (.inl ⟨by simp, rfl, HK3⟩)
          case measure => simp only [intOf, nilOne]; omega
    · go_wp2_with fail
      refine wp_region_grow (by kernel_rfl) 7 (by decide) (apart_of (by kernel_rfl)) (by kernel_rfl) (rlG g gd o m cm k) (fun _ _ _ _ => True) (fun _ _ _ _ h _ => by unfold rlG at *; exact h) ?_ ?_
      · intro j hj ob ho vs w2 hb hpre
        rcases j with _ | _ | _ | _ | _ | _ | _ | j
        · obtain rfl := Option.some.inj ho
          simp only [canon, List.range, List.range.loop, List.foldl]
          go_simp
          exact ⟨rfl, Below.refl _ _⟩
        · obtain rfl := Option.some.inj ho
          simp only [canon, List.range, List.range.loop, List.foldl]
          go_simp
          exact ⟨rfl, Below.refl _ _⟩
        · obtain rfl := Option.some.inj ho
          simp only [canon, List.range, List.range.loop, List.foldl]
          go_simp
          exact ⟨rfl, Below.refl _ _⟩
        · obtain rfl := Option.some.inj ho
          have e1 : vs 1 = _ := hpre 1 (by decide) rfl
          have e2 : vs 2 = _ := hpre 2 (by decide) rfl
          have hcut := fun W => cut_off 71 .i64 Tryd.underlying71 gd o m cm k (by omega) (by omega) W
          simp only [canon, List.range, List.range.loop, List.foldl]
          go_simp
          exact ⟨rfl, Below.refl _ _⟩
        · obtain rfl := Option.some.inj ho
          have e0 : vs 0 = _ := hpre 0 (by decide) rfl
          simp only [canon, List.range, List.range.loop, List.foldl]
          go_simp
          exact ⟨rfl, Below.refl _ _⟩
        · obtain rfl := Option.some.inj ho
          have e4 : vs 4 = _ := hpre 4 (by decide) rfl
          simp only [canon, List.range, List.range.loop, List.foldl]
          go_simp
          have hna : (nilAhead 302 77 (.pointer (some ⟨g, 0, none⟩)) "Read").run Tryd.prog w2 = .ok (some false) w2 := by kernel_rfl
          rw [hna]
          go_simp
          exact ⟨rfl, Below.refl _ _⟩
        · obtain rfl := Option.some.inj ho
          have e0 : vs 0 = _ := hpre 0 (by decide) rfl
          simp only [canon, List.range, List.range.loop, List.foldl]
          go_simp
          exact ⟨rfl, Below.refl _ _⟩
        · omega
      · intro vs w2 hb hr hd
        have e3 : vs 3 = _ := hr 3 (by omega)
        have e6 : vs 6 = _ := hr 6 (by omega)
        simp only [canon, List.range, List.range.loop, List.foldl]
        refine wpAny_last 7 (by kernel_rfl) ?_
        refine wpOp_go rfl rfl ?_
        go_simp
        go_upon
        have hvE : w2.cell? ⟨2, 0, none⟩ = some (.iface Te ue) := (HE.out w2 (hk1.out.2.trans (Ex.of_below (hDr hb)))).eof
        refine (readEnd_calls g ga n c n (-1) _ _ _ _ w2 (blk_keep hk1.out.1 (hDr hb)) (Nat.le_refl _) hvE).mono ?_
        rintro e w3 ⟨rfl, h1, h3⟩
        have HK3 : Kp (RdrAt w3 g ga n c n (-1) ∧ Ex (fun k => k = g ∨ k = gd) w w3) := ⟨h1, (hk1.out.2.trans (Ex.of_below (hDr hb))).trans (Ex.of_below h3)⟩
        clear h1 h3 hb hr hd hk1 hvE
        simp only
        refine wpAny_last 8 (by kernel_rfl) ?_
        refine wpOp_go rfl rfl ?_
        go_simp
        refine wpAny_two 9 10 (by kernel_rfl) ?_ ?_
        · refine wpOp_go rfl rfl ?_
          go_simp
          refine wpAny_two 10 11 (by kernel_rfl) ?_ ?_
          · refine wpOp_go rfl rfl ?_
            go_simp
            refine wpAny_last 11 (by kernel_rfl) ?_
            refine wpOp_go rfl rfl ?_
            go_simp
            refine wpAny_last 12 (by kernel_rfl) ?_
            refine wpOp_go rfl rfl ?_
            go_simp
            refine wpAny_none (by kernel_rfl) ?_ _
            go_wp2
            go_roundw
            case rel => exact .inr (.inr ⟨by simp, rfl, HK3⟩)
            case measure => simp only [intOf, nilOne]; omega
          · refine wpOp_go rfl rfl ?_
            go_simp
            refine wpAny_last 10 (by kernel_rfl) ?_
            refine wpOp_go rfl rfl ?_
            go_simp
            refine wpAny_last 12 (by kernel_rfl) ?_
            refine wpOp_go rfl rfl ?_
            go_simp
            refine wpAny_none (by kernel_rfl) ?_ _
            go_wp2
            go_roundw
            case rel => exact .inr (.inr ⟨by simp, rfl, HK3⟩)
            case measure => simp only [intOf, nilOne]; omega
        · refine wpOp_go rfl rfl ?_
          go_simp
          refine wpAny_last 9 (by kernel_rfl) ?_
          refine wpOp_go rfl rfl ?_
          go_simp
          refine wpAny_last 11 (by kernel_rfl) ?_
          refine wpOp_go rfl rfl ?_
          go_simp
          refine wpAny_last 12 (by kernel_rfl) ?_
          refine wpOp_go rfl rfl ?_
          go_simp
          refine wpAny_none (by kernel_rfl) ?_ _
          go_wp2
          go_roundw
          case rel => exact .inr (.inr ⟨by simp, rfl, HK3⟩)
          case measure => simp only [intOf, nilOne]; omega
    · have ce := (HE.out _ hk1.out.2).eof
      have cu := (HE.out _ hk1.out.2).ueof
      go_wp2_with fail
      go_ret2
      exact ⟨⟨rfl, _, hk1.out.1⟩, hk1.out.2⟩

set_option maxHeartbeats 8000000 in
set_option maxRecDepth 100000 in
/-- io.ReadAtLeast, where as many bytes are there. -/
theorem readAll_calls (g ga gd n c o m cm i : Nat) (q : Int) (bs : List UInt8) (cs : Array Value) (w : World) (hg : RdrAt w g ga n c i q) (hr : RdB w (some ⟨ga, 0, none⟩) n c bs) (hag : ga < g) (hgd : g < gd)
    (hd : w.heap[gd]? = some (.cells cs 5 (0, 0))) (hos : o + m ≤ cs.size) (hmc : m ≤ cm) (hm0 : 0 < m) (hmi : i + m ≤ n) (hm : m ≤ 4611686018427387904) (hn : n ≤ 4611686018427387904) :
    Calls Tryd.prog 79 #[.iface 77 (.pointer (some ⟨g, 0, none⟩)), .slice (some ⟨gd, o, none⟩) m cm, .int .i64 m] w fun e w' => (e = .returned (.tuple #[.int .i64 m, .nilIface]) ∧ RdrAt w' g ga n c (i + m) (-1) ∧ w'.heap[gd]? = some (.cells (putLs cs o (Lib.byteCells ((bs.drop i).take m))) 5 (0, 0))) ∧ Ex (fun k => k = g ∨ k = gd) w w' := by
  have hDr : ∀ {wr w2 : World}, Below wr.drew.heap.size wr.drew w2 → Below wr.heap.size wr w2 := fun h => bel_then (bel_drew (Below.refl _ _)) h
  have hmk : m - 0 = m := Nat.sub_zero m
  have HW := Kp.mk (And.intro hg (And.intro hr hd))
  have HX := Kp.mk (And.intro hag (And.intro hgd (And.intro hmi (And.intro hn (And.intro hm hos)))))
  clear hg hr hd hag hgd hn hmi hos
  go_enter Tryd.func79, Tryd.ntmps79
  go_wp2
  go_loopw [6, 7] (fun vn ve' wr => (vn = .int .i64 0 ∧ ve' = .nilIface ∧ Kp (RdrAt wr g ga n c i q ∧ RdB wr (some ⟨ga, 0, none⟩) n c bs ∧ wr.heap[gd]? = some (.cells cs 5 (0, 0)) ∧ Ex (fun k => k = g ∨ k = gd) w wr)) ∨ (vn = .int .i64 m ∧ ve' = .nilIface ∧ Kp (RdrAt wr g ga n c (i + m) (-1) ∧ wr.heap[gd]? = some (.cells (putLs cs o (Lib.byteCells ((bs.drop i).take m))) 5 (0, 0)) ∧ Ex (fun k => k = g ∨ k = gd) w wr)))
    (fun vn _ _ => m - (intOf vn).toNat)
  case atStart => exact .inl ⟨rfl, rfl, ⟨HW.out.1, HW.out.2.1, HW.out.2.2, Ex.refl _ _⟩⟩
  case round =>
    obtain ⟨rfl, rfl, hk1⟩ | ⟨rfl, rfl, hk1⟩ := hrel
    · go_wp2_with fail
      refine wp_region_grow (by kernel_rfl) 7 (by decide) (apart_of (by kernel_rfl)) (by kernel_rfl) (rlG g gd o m cm 0) (fun _ _ _ _ => True) (fun _ _ _ _ h _ => by unfold rlG at *; exact h) ?_ ?_
      · intro j hj ob ho vs w2 hb hpre
        rcases j with _ | _ | _ | _ | _ | _ | _ | j
        · obtain rfl := Option.some.inj ho
          simp only [canon, List.range, List.range.loop, List.foldl]
          go_simp
          exact ⟨rfl, Below.refl _ _⟩
        · obtain rfl := Option.some.inj ho
          simp only [canon, List.range, List.range.loop, List.foldl]
          go_simp
          exact ⟨rfl, Below.refl _ _⟩
        · obtain rfl := Option.some.inj ho
          simp only [canon, List.range, List.range.loop, List.foldl]
          go_simp
          exact ⟨rfl, Below.refl _ _⟩
        · obtain rfl := Option.some.inj ho
          have e1 : vs 1 = _ := hpre 1 (by decide) rfl
          have e2 : vs 2 = _ := hpre 2 (by decide) rfl
          have hcut := fun W => cut_off 71 .i64 Tryd.underlying71 gd o m cm 0 (by omega) (by omega) W
          simp only [canon, List.range, List.range.loop, List.foldl]
          go_simp
          exact ⟨rfl, Below.refl _ _⟩
        · obtain rfl := Option.some.inj ho
          have e0 : vs 0 = _ := hpre 0 (by decide) rfl
          simp only [canon, List.range, List.range.loop, List.foldl]
          go_simp
          exact ⟨rfl, Below.refl _ _⟩
        · obtain rfl := Option.some.inj ho
          have e4 : vs 4 = _ := hpre 4 (by decide) rfl
          simp only [canon, List.range, List.range.loop, List.foldl]
          go_simp
          have hna : (nilAhead 302 77 (.pointer (some ⟨g, 0, none⟩)) "Read").run Tryd.prog w2 = .ok (some false) w2 := by kernel_rfl
          rw [hna]
          go_simp
          exact ⟨rfl, Below.refl _ _⟩
        · obtain rfl := Option.some.inj ho
          have e0 : vs 0 = _ := hpre 0 (by decide) rfl
          simp only [canon, List.range, List.range.loop, List.foldl]
          go_simp
          exact ⟨rfl, Below.refl _ _⟩
        · omega
      · intro vs w2 hb hr hd
        have e3 : vs 3 = _ := hr 3 (by omega)
        have e6 : vs 6 = _ := hr 6 (by omega)
        simp only [canon, List.range, List.range.loop, List.foldl]
        refine wpAny_last 7 (by kernel_rfl) ?_
        refine wpOp_go rfl rfl ?_
        go_simp
        go_upon
        refine (readG_calls g ga gd n c o m cm m i q bs cs w2 (blk_keep hk1.out.1 (hDr hb)) (hk1.out.2.1.below (hDr hb)) HX.out.1 HX.out.2.1 (blk_keep hk1.out.2.2.1 (hDr hb)) HX.out.2.2.2.2.2 hm0 (Nat.le_refl _) HX.out.2.2.1 (.inl rfl) hm HX.out.2.2.2.1).mono ?_
        rintro e w3 ⟨⟨rfl, h1, h2⟩, h3⟩
        have HK3 : Kp (RdrAt w3 g ga n c (i + m) (-1) ∧ w3.heap[gd]? = some (.cells (putLs cs o (Lib.byteCells ((bs.drop i).take m))) 5 (0, 0)) ∧ Ex (fun k => k = g ∨ k = gd) w w3) := ⟨h1, h2, (hk1.out.2.2.2.trans (Ex.of_below (hDr hb))).trans h3⟩
        clear h1 h2 h3 hb hr hd hk1
        simp only
        refine wpAny_last 8 (by kernel_rfl) ?_
        refine wpOp_go rfl rfl ?_
        go_simp
        refine wpAny_two 9 10 (by kernel_rfl) ?_ ?_
        · refine wpOp_go rfl rfl ?_
          go_simp
          refine wpAny_two 10 11 (by kernel_rfl) ?_ ?_
          · refine wpOp_go rfl rfl ?_
            go_simp
            refine wpAny_last 11 (by kernel_rfl) ?_
            refine wpOp_go rfl rfl ?_
            go_simp
            refine wpAny_last 12 (by kernel_rfl) ?_
            refine wpOp_go rfl rfl ?_
            go_simp
            refine wpAny_none (by kernel_rfl) ?_ _
            go_wp2
            go_roundw
            case rel => exact .inr ⟨by simp, rfl, HK3⟩
            case measure => simp only [intOf]; omega
          · refine wpOp_go rfl rfl ?_
            go_simp
            refine wpAny_last 10 (by kernel_rfl) ?_
            refine wpOp_go rfl rfl ?_
            go_simp
            refine wpAny_last 12 (by kernel_rfl) ?_
            refine wpOp_go rfl rfl ?_
            go_simp
            refine wpAny_none (by kernel_rfl) ?_ _
            go_wp2
            go_roundw
            case rel => exact .inr ⟨by simp, rfl, HK3⟩
            case measure => simp only [intOf]; omega
        · refine wpOp_go rfl rfl ?_
          go_simp
          refine wpAny_last 9 (by kernel_rfl) ?_
          refine wpOp_go rfl rfl ?_
          go_simp
          refine wpAny_last 11 (by kernel_rfl) ?_
          refine wpOp_go rfl rfl ?_
          go_simp
          refine wpAny_last 12 (by kernel_rfl) ?_
          refine wpOp_go rfl rfl ?_
          go_simp
          refine wpAny_none (by kernel_rfl) ?_ _
          go_wp2
          go_roundw
          case rel => exact .inr ⟨by simp, rfl, HK3⟩
          case measure => simp only [intOf]; omega
    · go_wp2_with fail
      go_ret2
      exact ⟨⟨rfl, hk1.out.1, hk1.out.2.1⟩, hk1.out.2.2⟩

set_option maxHeartbeats 2000000 in
set_option maxRecDepth 100000 in
/-- io.ReadFull, where some bytes are there, but fewer than are asked for. -/
theorem fullLess_calls (g ga gd n c o m cm k i : Nat) (q : Int) (bs : List UInt8) (cs : Array Value) (ve vu vo vn : Value) (w : World) (hg : RdrAt w g ga n c i q) (hr : RdB w (some ⟨ga, 0, none⟩) n c bs) (hag : ga < g) (hgd : g < gd)
    (hd : w.heap[gd]? = some (.cells cs 5 (0, 0))) (hos : o + m ≤ cs.size) (hmc : m ≤ cm) (hk : 0 < k) (hkm : k < m) (hki : i + k = n) (hm : m ≤ 4611686018427387904) (hn : n ≤ 4611686018427387904) (he : ∀ w', Ex (fun k => k = g ∨ k = gd) w w' → RdErrs ve vu vo vn w') :
    Calls Tryd.prog 64 #[.iface 77 (.pointer (some ⟨g, 0, none⟩)), .slice (some ⟨gd, o, none⟩) m cm] w fun e w' => (e = .returned (.tuple #[.int .i64 k, vu]) ∧ ∃ q', RdrAt w' g ga n c n q') ∧ Ex (fun k => k = g ∨ k = gd) w w' := by
  have H := Kp.mk (readLess_calls g ga gd n c o m cm k i q bs cs ve vu vo vn w hg hr hag hgd hd hos hmc hk hkm hki hm hn he)
  clear hg hr hag hgd hd hkm hki hn he hk hm hos hmc
  go_enter Tryd.func64, Tryd.ntmps64
  go_wp2_with fail
  refine H.out.mono ?_
  rintro e w1 ⟨⟨rfl, h1⟩, h3⟩
  have HK := Kp.mk (And.intro h1 h3)
  clear h1 h3 H
  go_wp2_with fail
  go_ret2
  exact ⟨⟨rfl, HK.out.1⟩, HK.out.2⟩

set_option maxHeartbeats 2000000 in
set_option maxRecDepth 100000 in
/-- io.ReadFull, where no byte is asked for. -/
theorem fullNone_calls (g : Nat) (A : Option Addr) (cm : Nat) (w : World) :
    Calls Tryd.prog 64 #[.iface 77 (.pointer (some ⟨g, 0, none⟩)), .slice A 0 cm] w fun e w' => e = .returned (.tuple #[.int .i64 0, .nilIface]) ∧ w = w' := by
  have H : Kp (∀ w, Calls Tryd.prog 79 #[.iface 77 (.pointer (some ⟨g, 0, none⟩)), .slice A 0 cm, .int .i64 0] w fun e w' => e = .returned (.tuple #[.int .i64 0, .nilIface]) ∧ w = w') := ⟨fun w => by
    go_enter Tryd.func79, Tryd.ntmps79
    go_wp2
    go_loopw [6, 7] (fun vn ve' wr => vn = .int .i64 0 ∧ ve' = .nilIface ∧ w = wr) (fun _ _ _ => 0)
    case atStart => exact ⟨rfl, rfl, rfl⟩
    case round =>
      obtain ⟨rfl, rfl, rfl⟩ := hrel
      go_wp2
      go_ret2
      exact ⟨rfl, rfl⟩⟩
  go_enter Tryd.func64, Tryd.ntmps64
  go_wp2_with fail
  refine (H.out _).mono ?_
  rintro e w' ⟨rfl, rfl⟩
  go_wp2_with fail
  go_ret2
  exact ⟨rfl, rfl⟩

end Go.Proofs.YtldhnabhojfmiaaDoorR
