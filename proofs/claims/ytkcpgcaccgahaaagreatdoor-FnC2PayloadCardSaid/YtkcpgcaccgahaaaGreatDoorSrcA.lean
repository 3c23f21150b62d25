/- Some texts in one: RdFull, RdFullG, Src. -/
import Derived.Test.YtkcpgcaccgahaaaGreatDoorRdA
import Derived.Handy
import Derived.Test.YtkcpgcaccgahaaaGreatDoorRdUv
namespace Go.Proofs.YtkcpgcaccgahaaaGreatDoor
open Go.RowKit

/-- What operations 0 to 6 of the reading region leave. -/
def rlR (g gd m : Nat) (j : Nat) (v : Value) (_ : World) : Prop :=
  match j with
  | 0 => v = .iface 104 (.pointer (some ⟨g, 0, none⟩))
  | 1 => v = .slice (some ⟨gd, 0, none⟩) m m
  | 2 => v = .int .i64 0
  | 3 => v = .slice (some ⟨gd, 0, none⟩) m m
  | 4 => v = .func (Fn.method "Read") #[.iface 104 (.pointer (some ⟨g, 0, none⟩))] #[]
  | 5 => v = .func (Fn.method "Read") #[.iface 104 (.pointer (some ⟨g, 0, none⟩))] #[]
  | 6 => v = .iface 104 (.pointer (some ⟨g, 0, none⟩))
  | _ => True

set_option maxHeartbeats 4000000 in
set_option maxRecDepth 100000 in
/-- io.ReadAtLeast, where m bytes are there. -/
theorem readAtLeast_calls (g ga gd n c m i : Nat) (q : Int) (bs : List UInt8) (w : World) (hg : RdrAt w g ga n c i q) (hr : RdB w (some ⟨ga, 0, none⟩) n c bs) (hag : ga < g) (hgd : g < gd)
    (hd : w.heap[gd]? = some (.cells (zeros m) 5 (0, 0))) (hm : 0 < m) (hmi : i + m ≤ n) (hn : n ≤ 4611686018427387904) :
    Calls Tryz.prog 121 #[.iface 104 (.pointer (some ⟨g, 0, none⟩)), .slice (some ⟨gd, 0, none⟩) m m, .int .i64 m] w fun e w' => (e = .returned (.tuple #[.int .i64 m, .nilIface]) ∧ RdrAt w' g ga n c (i + m) (-1) ∧ RdB w' (some ⟨gd, 0, none⟩) m m ((bs.drop i).take m)) ∧ Below g w w' := by
  have hDr : ∀ {wr w2 : World}, Below wr.drew.heap.size wr.drew w2 → Below wr.heap.size wr w2 := fun h => bel_then (bel_drew (Below.refl _ _)) h
  have hmz : m ≤ 4611686018427387904 := by omega
  have HW := Kp.mk (And.intro hg (And.intro hr hd))
  have HX := Kp.mk (And.intro hm (And.intro hmi (And.intro hn (And.intro hag hgd))))
  clear hg hr hd hmi hn hag hgd
  go_enter Tryz.func121, Tryz.ntmps121
  go_wp2
  go_loopw [6, 7] (fun vn ve wr => ve = .nilIface ∧ (vn = .int .i64 0 ∧ Kp (RdrAt wr g ga n c i q ∧ RdB wr (some ⟨ga, 0, none⟩) n c bs ∧ wr.heap[gd]? = some (.cells (zeros m) 5 (0, 0)) ∧ Below g w wr) ∨ vn = .int .i64 m ∧ Kp (RdrAt wr g ga n c (i + m) (-1) ∧ RdB wr (some ⟨gd, 0, none⟩) m m ((bs.drop i).take m) ∧ Below g w wr)))
    (fun vn _ _ => m - (intOf vn).toNat)
  case atStart => exact ⟨rfl, .inl ⟨rfl, ⟨HW.out.1, HW.out.2.1, HW.out.2.2, Below.refl _ _⟩⟩⟩
  case round =>
    obtain ⟨rfl, ⟨rfl, hk⟩ | ⟨rfl, hk⟩⟩ := hrel
    · go_wp2_with fail
      refine wp_region_grow (by kernel_rfl) 7 (by decide) (apart_of (by kernel_rfl)) (by kernel_rfl) (rlR g gd m) (fun _ _ _ _ => True) (fun _ _ _ _ h _ => by unfold rlR at *; exact h) ?_ ?_
      · intro j hj o ho vs w2 hb hpre
        rcases j with _ | _ | _ | _ | _ | _ | _ | j
        · obtain rfl := Option.some.inj ho
          simp only [canon, List.range, List.range.loop, List.foldl]
          go_simp
          exact ⟨rfl, Below.refl _ _⟩
        · obtain rfl := Option.some.inj ho
          simp only [canon, List.range, List.range.loop, List.foldl]
          go_simp
          exact ⟨rfl, Below.refl _ _⟩
        · obtain rfl := Option.some.inj ho
          simp only [canon, List.range, List.range.loop, List.foldl]
          go_simp
          exact ⟨rfl, Below.refl _ _⟩
        · obtain rfl := Option.some.inj ho
          have e1 : vs 1 = _ := hpre 1 (by decide) rfl
          have e2 : vs 2 = _ := hpre 2 (by decide) rfl
          have hcut := fun W => cut_own 67 .i64 Tryz.underlying67 gd m 0 hm W
          simp only [canon, List.range, List.range.loop, List.foldl]
          go_simp
          exact ⟨rfl, Below.refl _ _⟩
        · obtain rfl := Option.some.inj ho
          have e0 : vs 0 = _ := hpre 0 (by decide) rfl
          simp only [canon, List.range, List.range.loop, List.foldl]
          go_simp
          exact ⟨rfl, Below.refl _ _⟩
        · obtain rfl := Option.some.inj ho
          have e4 : vs 4 = _ := hpre 4 (by decide) rfl
          simp only [canon, List.range, List.range.loop, List.foldl]
          go_simp
          have hna : (nilAhead 453 104 (.pointer (some ⟨g, 0, none⟩)) "Read").run Tryz.prog w2 = .ok (some false) w2 := by kernel_rfl
          rw [hna]
          go_simp
          exact ⟨rfl, Below.refl _ _⟩
        · obtain rfl := Option.some.inj ho
          have e0 : vs 0 = _ := hpre 0 (by decide) rfl
          simp only [canon, List.range, List.range.loop, List.foldl]
          go_simp
          exact ⟨rfl, Below.refl _ _⟩
        · omega
      · intro vs w2 hb hr hd
        have e3 : vs 3 = _ := hr 3 (by omega)
        have e6 : vs 6 = _ := hr 6 (by omega)
        simp only [canon, List.range, List.range.loop, List.foldl]
        refine wpAny_last 7 (by kernel_rfl) ?_
        refine wpOp_go rfl rfl ?_
        go_simp
        go_upon
        refine (read_calls g ga gd n c m i q bs w2 (blk_keep hk.out.1 (hDr hb)) (hk.out.2.1.below (hDr hb)) HX.out.2.2.2.1 HX.out.2.2.2.2 (blk_keep hk.out.2.2.1 (hDr hb)) hm HX.out.2.1 HX.out.2.2.1).mono ?_
        rintro e w3 ⟨⟨rfl, h1, h2⟩, h3⟩
        have HK3 : Kp (RdrAt w3 g ga n c (i + m) (-1) ∧ RdB w3 (some ⟨gd, 0, none⟩) m m ((bs.drop i).take m) ∧ Below g w w3) := ⟨h1, h2, (hk.out.2.2.2.trans ((hDr hb).mono (by have := (Array.getElem?_eq_some_iff.1 hk.out.1).1; omega))).trans h3⟩
        clear h1 h2 h3 hb hr hd hk
        simp only
        refine wpAny_last 8 (by kernel_rfl) ?_
        refine wpOp_go rfl rfl ?_
        go_simp
        refine wpAny_two 9 10 (by kernel_rfl) ?_ ?_
        · refine wpOp_go rfl rfl ?_
          go_simp
          refine wpAny_two 10 11 (by kernel_rfl) ?_ ?_
          · refine wpOp_go rfl rfl ?_
            go_simp
            refine wpAny_last 11 (by kernel_rfl) ?_
            refine wpOp_go rfl rfl ?_
            go_simp
            refine wpAny_last 12 (by kernel_rfl) ?_
            refine wpOp_go rfl rfl ?_
            go_simp
            refine wpAny_none (by kernel_rfl) ?_ _
            go_wp2
            go_roundw
            case rel => exact ⟨rfl, .inr ⟨by simp, HK3⟩⟩
            case measure => simp only [intOf]; omega
          · refine wpOp_go rfl rfl ?_
            go_simp
            refine wpAny_last 10 (by kernel_rfl) ?_
            refine wpOp_go rfl rfl ?_
            go_simp
            refine wpAny_last 12 (by kernel_rfl) ?_
            refine wpOp_go rfl rfl ?_
            go_simp
            refine wpAny_none (by kernel_rfl) ?_ _
            go_wp2
            go_roundw
            case rel => exact ⟨rfl, .inr ⟨by simp, HK3⟩⟩
            case measure => simp only [intOf]; omega
        · refine wpOp_go rfl rfl ?_
          go_simp
          refine wpAny_last 9 (by kernel_rfl) ?_
          refine wpOp_go rfl rfl ?_
          go_simp
          refine wpAny_last 11 (by kernel_rfl) ?_
          refine wpOp_go rfl rfl ?_
          go_simp
          refine wpAny_last 12 (by kernel_rfl) ?_
          refine wpOp_go rfl rfl ?_
          go_simp
          refine wpAny_none (by kernel_rfl) ?_ _
          go_wp2
          go_roundw
          case rel => exact ⟨rfl, .inr ⟨by simp, HK3⟩⟩
          case measure => simp only [intOf]; omega
    · go_wp2_with fail
      go_ret2
      exact ⟨⟨rfl, hk.out.1, hk.out.2.1⟩, hk.out.2.2⟩

end Go.Proofs.YtkcpgcaccgahaaaGreatDoor
namespace Go.Proofs.YtkcpgcaccgahaaaGreatDoor
open Go.RowKit

/-- What operations 0 to 6 of the reading region leave, with nn bytes read. -/
def rlG (g gd o m cm nn : Nat) (j : Nat) (v : Value) (_ : World) : Prop :=
  match j with
  | 0 => v = .iface 104 (.pointer (some ⟨g, 0, none⟩))
  | 1 => v = .slice (some ⟨gd, o, none⟩) m cm
  | 2 => v = .int .i64 nn
  | 3 => v = .slice (some ⟨gd, o + nn, none⟩) (m - nn) (cm - nn)
  | 4 => v = .func (Fn.method "Read") #[.iface 104 (.pointer (some ⟨g, 0, none⟩))] #[]
  | 5 => v = .func (Fn.method "Read") #[.iface 104 (.pointer (some ⟨g, 0, none⟩))] #[]
  | 6 => v = .iface 104 (.pointer (some ⟨g, 0, none⟩))
  | _ => True
theorem cut_off (t : TypeId) (kl : IntKind) (ht : Tryz.prog.underlying t = some (.slice 5)) (g o n c m : Nat) (hm : m < n) (hc : n ≤ c) (W : World) :
    (Instr.slice t (.slice (some ⟨g, o, none⟩) n c) (some (.int kl (m : Int))) none none).run Tryz.prog W = .ok (.slice (some ⟨g, o + m, none⟩) (n - m) (c - m)) W := by
  obtain ⟨i, hi, _, hs, _⟩ := info_parts info_u8
  have hel : Tryz.prog.elem t = 5 := by simp [Program.elem, ht]
  have hu : Tryz.prog.underlying t = some (.slice (Tryz.prog.elem t)) := by rw [hel]; exact ht
  rw [run_slice_l W t _ n c hu kl (m : Int) (Int.natCast_nonneg _) (by omega), hel]
  have hne : ¬ c = m := by omega
  simp [sizeOf, typeInfo, hi, hs, sliced, Result.andThen, hne, add_plain]
def nilOne (v : Value) : Nat := match v with | .nilIface => 1 | _ => 0

set_option maxHeartbeats 8000000 in
set_option maxRecDepth 100000 in
/-- io.ReadAtLeast, where some bytes are there, but fewer than are asked for. -/
theorem readLess_calls (g ga gd n c o m cm k i : Nat) (q : Int) (bs : List UInt8) (cs : Array Value) (ve vu vo vn : Value) (w : World) (hg : RdrAt w g ga n c i q) (hr : RdB w (some ⟨ga, 0, none⟩) n c bs) (hag : ga < g) (hgd : g < gd)
    (hd : w.heap[gd]? = some (.cells cs 5 (0, 0))) (hos : o + m ≤ cs.size) (hmc : m ≤ cm) (hk : 0 < k) (hkm : k < m) (hki : i + k = n) (hm : m ≤ 4611686018427387904) (hn : n ≤ 4611686018427387904) (he : ∀ w', Ex (fun k => k = g ∨ k = gd) w w' → RdErrs ve vu vo vn w') :
    Calls Tryz.prog 121 #[.iface 104 (.pointer (some ⟨g, 0, none⟩)), .slice (some ⟨gd, o, none⟩) m cm, .int .i64 m] w fun e w' => (e = .returned (.tuple #[.int .i64 k, vu]) ∧ ∃ q', RdrAt w' g ga n c n q') ∧ Ex (fun k => k = g ∨ k = gd) w w' := by
  have hDr : ∀ {wr w2 : World}, Below wr.drew.heap.size wr.drew w2 → Below wr.heap.size wr w2 := fun h => bel_then (bel_drew (Below.refl _ _)) h
  have hmk : m - 0 = m := Nat.sub_zero m
  have he0 := he w (Ex.refl _ _)
  obtain ⟨Te, ue, rfl⟩ := he0.eofE.iface
  obtain ⟨Tu, uu, rfl⟩ := he0.ueofE.iface
  have hq := errV_same he0.eofE
  have HW := Kp.mk (And.intro hg (And.intro hr hd))
  have HX := Kp.mk (And.intro hag (And.intro hgd (And.intro hki (And.intro hn (And.intro hm (And.intro hos (And.intro hk hkm)))))))
  have HE := Kp.mk he
  clear hg hr hd hag hgd hn he he0 hki hos
  go_enter Tryz.func121, Tryz.ntmps121
  go_wp2
  go_loopw [6, 7] (fun vn ve' wr => (vn = .int .i64 0 ∧ ve' = .nilIface ∧ Kp (RdrAt wr g ga n c i q ∧ RdB wr (some ⟨ga, 0, none⟩) n c bs ∧ wr.heap[gd]? = some (.cells cs 5 (0, 0)) ∧ Ex (fun k => k = g ∨ k = gd) w wr)) ∨ (vn = .int .i64 k ∧ ve' = .nilIface ∧ Kp (RdrAt wr g ga n c n (-1) ∧ Ex (fun k => k = g ∨ k = gd) w wr)) ∨ (vn = .int .i64 k ∧ ve' = .iface Te ue ∧ Kp (RdrAt wr g ga n c n (-1) ∧ Ex (fun k => k = g ∨ k = gd) w wr)))
    (fun vn ve' _ => 2 * (m - (intOf vn).toNat) + nilOne ve')
  case atStart => exact .inl ⟨rfl, rfl, ⟨HW.out.1, HW.out.2.1, HW.out.2.2, Ex.refl _ _⟩⟩
  case round =>
    obtain ⟨rfl, rfl, hk1⟩ | ⟨rfl, rfl, hk1⟩ | ⟨rfl, rfl, hk1⟩ := hrel
    · go_wp2_with fail
      refine wp_region_grow (by kernel_rfl) 7 (by decide) (apart_of (by kernel_rfl)) (by kernel_rfl) (rlG g gd o m cm 0) (fun _ _ _ _ => True) (fun _ _ _ _ h _ => by unfold rlG at *; exact h) ?_ ?_
      · intro j hj ob ho vs w2 hb hpre
        rcases j with _ | _ | _ | _ | _ | _ | _ | j
        · obtain rfl := Option.some.inj ho
          simp only [canon, List.range, List.range.loop, List.foldl]
          go_simp
          exact ⟨rfl, Below.refl _ _⟩
        · obtain rfl := Option.some.inj ho
          simp only [canon, List.range, List.range.loop, List.foldl]
          go_simp
          exact ⟨rfl, Below.refl _ _⟩
        · obtain rfl := Option.some.inj ho
          simp only [canon, List.range, List.range.loop, List.foldl]
          go_simp
          exact ⟨rfl, Below.refl _ _⟩
        · obtain rfl := Option.some.inj ho
          have e1 : vs 1 = _ := hpre 1 (by decide) rfl
          have e2 : vs 2 = _ := hpre 2 (by decide) rfl
          have hcut := fun W => cut_off 67 .i64 Tryz.underlying67 gd o m cm 0 (by omega) (by omega) W
          simp only [canon, List.range, List.range.loop, List.foldl]
          go_simp
          exact ⟨rfl, Below.refl _ _⟩
        · obtain rfl := Option.some.inj ho
          have e0 : vs 0 = _ := hpre 0 (by decide) rfl
          simp only [canon, List.range, List.range.loop, List.foldl]
          go_simp
          exact ⟨rfl, Below.refl _ _⟩
        · obtain rfl := Option.some.inj ho
          have e4 : vs 4 = _ := hpre 4 (by decide) rfl
          simp only [canon, List.range, List.range.loop, List.foldl]
          go_simp
          have hna : (nilAhead 453 104 (.pointer (some ⟨g, 0, none⟩)) "Read").run Tryz.prog w2 = .ok (some false) w2 := by kernel_rfl
          rw [hna]
          go_simp
          exact ⟨rfl, Below.refl _ _⟩
        · obtain rfl := Option.some.inj ho
          have e0 : vs 0 = _ := hpre 0 (by decide) rfl
          simp only [canon, List.range, List.range.loop, List.foldl]
          go_simp
          exact ⟨rfl, Below.refl _ _⟩
        · omega
      · intro vs w2 hb hr hd
        have e3 : vs 3 = _ := hr 3 (by omega)
        have e6 : vs 6 = _ := hr 6 (by omega)
        simp only [canon, List.range, List.range.loop, List.foldl]
        refine wpAny_last 7 (by kernel_rfl) ?_
        refine wpOp_go rfl rfl ?_
        go_simp
        go_upon
        refine (readG_calls g ga gd n c o m cm k i q bs cs w2 (blk_keep hk1.out.1 (hDr hb)) (hk1.out.2.1.below (hDr hb)) HX.out.1 HX.out.2.1 (blk_keep hk1.out.2.2.1 (hDr hb)) HX.out.2.2.2.2.2.1 hk (by omega) (by have := HX.out; omega) (.inr HX.out.2.2.1) hm HX.out.2.2.2.1).mono ?_
        rintro e w3 ⟨⟨rfl, h1, _⟩, h3⟩
        rw [HX.out.2.2.1] at h1
        have HK3 : Kp (RdrAt w3 g ga n c n (-1) ∧ Ex (fun k => k = g ∨ k = gd) w w3) := ⟨h1, (hk1.out.2.2.2.trans (Ex.of_below (hDr hb))).trans h3⟩
        clear h1 h3 hb hr hd hk1
        simp only
        refine wpAny_last 8 (by kernel_rfl) ?_
        refine wpOp_go rfl rfl ?_
        go_simp
        refine wpAny_two 9 10 (by kernel_rfl) ?_ ?_
        · refine wpOp_go rfl rfl ?_
          go_simp
          refine wpAny_two 10 11 (by kernel_rfl) ?_ ?_
          · refine wpOp_go rfl rfl ?_
            go_simp
            refine wpAny_last 11 (by kernel_rfl) ?_
            refine wpOp_go rfl rfl ?_
            go_simp
            refine wpAny_last 12 (by kernel_rfl) ?_
            refine wpOp_go rfl rfl ?_
            go_simp
            refine wpAny_none (by kernel_rfl) ?_ _
            go_wp2
            go_roundw
            case rel => exact .inr (.inl ⟨by simp, rfl, HK3⟩)
            case measure => simp only [intOf, nilOne]; omega
          · refine wpOp_go rfl rfl ?_
            go_simp
            refine wpAny_last 10 (by kernel_rfl) ?_
            refine wpOp_go rfl rfl ?_
            go_simp
            refine wpAny_last 12 (by kernel_rfl) ?_
            refine wpOp_go rfl rfl ?_
            go_simp
            refine wpAny_none (by kernel_rfl) ?_ _
            go_wp2
            go_roundw
            case rel => exact .inr (.inl ⟨by simp, rfl, HK3⟩)
            case measure => simp only [intOf, nilOne]; omega
        · refine wpOp_go rfl rfl ?_
          go_simp
          refine wpAny_last 9 (by kernel_rfl) ?_
          refine wpOp_go rfl rfl ?_
          go_simp
          refine wpAny_last 11 (by kernel_rfl) ?_
          refine wpOp_go rfl rfl ?_
          go_simp
          refine wpAny_last 12 (by kernel_rfl) ?_
          refine wpOp_go rfl rfl ?_
          go_simp
          refine wpAny_none (by kernel_rfl) ?_ _
          go_wp2
          go_roundw
          case rel => exact .inr (.inl ⟨by simp, rfl, HK3⟩)
          case measure => simp only [intOf, nilOne]; omega
    · go_wp2_with fail
      refine wp_region_grow (by kernel_rfl) 7 (by decide) (apart_of (by kernel_rfl)) (by kernel_rfl) (rlG g gd o m cm k) (fun _ _ _ _ => True) (fun _ _ _ _ h _ => by unfold rlG at *; exact h) ?_ ?_
      · intro j hj ob ho vs w2 hb hpre
        rcases j with _ | _ | _ | _ | _ | _ | _ | j
        · obtain rfl := Option.some.inj ho
          simp only [canon, List.range, List.range.loop, List.foldl]
          go_simp
          exact ⟨rfl, Below.refl _ _⟩
        · obtain rfl := Option.some.inj ho
          simp only [canon, List.range, List.range.loop, List.foldl]
          go_simp
          exact ⟨rfl, Below.refl _ _⟩
        · obtain rfl := Option.some.inj ho
          simp only [canon, List.range, List.range.loop, List.foldl]
          go_simp
          exact ⟨rfl, Below.refl _ _⟩
        · obtain rfl := Option.some.inj ho
          have e1 : vs 1 = _ := hpre 1 (by decide) rfl
          have e2 : vs 2 = _ := hpre 2 (by decide) rfl
          have hcut := fun W => cut_off 67 .i64 Tryz.underlying67 gd o m cm k (by omega) (by omega) W
          simp only [canon, List.range, List.range.loop, List.foldl]
          go_simp
          exact ⟨rfl, Below.refl _ _⟩
        · obtain rfl := Option.some.inj ho
          have e0 : vs 0 = _ := hpre 0 (by decide) rfl
          simp only [canon, List.range, List.range.loop, List.foldl]
          go_simp
          exact ⟨rfl, Below.refl _ _⟩
        · obtain rfl := Option.some.inj ho
          have e4 : vs 4 = _ := hpre 4 (by decide) rfl
          simp only [canon, List.range, List.range.loop, List.foldl]
          go_simp
          have hna : (nilAhead 453 104 (.pointer (some ⟨g, 0, none⟩)) "Read").run Tryz.prog w2 = .ok (some false) w2 := by kernel_rfl
          rw [hna]
          go_simp
          exact ⟨rfl, Below.refl _ _⟩
        · obtain rfl := Option.some.inj ho
          have e0 : vs 0 = _ := hpre 0 (by decide) rfl
          simp only [canon, List.range, List.range.loop, List.foldl]
          go_simp
          exact ⟨rfl, Below.refl _ _⟩
        · omega
      · intro vs w2 hb hr hd
        have e3 : vs 3 = _ := hr 3 (by omega)
        have e6 : vs 6 = _ := hr 6 (by omega)
        simp only [canon, List.range, List.range.loop, List.foldl]
        refine wpAny_last 7 (by kernel_rfl) ?_
        refine wpOp_go rfl rfl ?_
        go_simp
        go_upon
        have hvE : w2.cell? ⟨0, 0, none⟩ = some (.iface Te ue) := (HE.out w2 (hk1.out.2.trans (Ex.of_below (hDr hb)))).eof
        refine (readEnd_calls g ga n c n (-1) _ _ _ _ w2 (blk_keep hk1.out.1 (hDr hb)) (Nat.le_refl _) hvE).mono ?_
        rintro e w3 ⟨rfl, h1, h3⟩
        have HK3 : Kp (RdrAt w3 g ga n c n (-1) ∧ Ex (fun k => k = g ∨ k = gd) w w3) := ⟨h1, (hk1.out.2.trans (Ex.of_below (hDr hb))).trans (Ex.of_below h3)⟩
        clear h1 h3 hb hr hd hk1 hvE
        simp only
        refine wpAny_last 8 (by kernel_rfl) ?_
        refine wpOp_go rfl rfl ?_
        go_simp
        refine wpAny_two 9 10 (by kernel_rfl) ?_ ?_
        · refine wpOp_go rfl rfl ?_
          go_simp
          refine wpAny_two 10 11 (by kernel_rfl) ?_ ?_
          · refine wpOp_go rfl rfl ?_
            go_simp
            refine wpAny_last 11 (by kernel_rfl) ?_
            refine wpOp_go rfl rfl ?_
            go_simp
            refine wpAny_last 12 (by kernel_rfl) ?_
            refine wpOp_go rfl rfl ?_
            go_simp
            refine wpAny_none (by kernel_rfl) ?_ _
            go_wp2
            go_roundw
            case rel => exact .inr (.inr ⟨by simp, rfl, HK3⟩)
            case measure => simp only [intOf, nilOne]; omega
          · refine wpOp_go rfl rfl ?_
            go_simp
            refine wpAny_last 10 (by kernel_rfl) ?_
            refine wpOp_go rfl rfl ?_
            go_simp
            refine wpAny_last 12 (by kernel_rfl) ?_
            refine wpOp_go rfl rfl ?_
            go_simp
            refine wpAny_none (by kernel_rfl) ?_ _
            go_wp2
            go_roundw
            case rel => exact .inr (.inr ⟨by simp, rfl, HK3⟩)
            case measure => simp only [intOf, nilOne]; omega
        · refine wpOp_go rfl rfl ?_
          go_simp
          refine wpAny_last 9 (by kernel_rfl) ?_
          refine wpOp_go rfl rfl ?_
          go_simp
          refine wpAny_last 11 (by kernel_rfl) ?_
          refine wpOp_go rfl rfl ?_
          go_simp
          refine wpAny_last 12 (by kernel_rfl) ?_
          refine wpOp_go rfl rfl ?_
          go_simp
          refine wpAny_none (by kernel_rfl) ?_ _
          go_wp2
          go_roundw
          case rel => exact .inr (.inr ⟨by simp, rfl, HK3⟩)
          case measure => simp only [intOf, nilOne]; omega
    · have ce := (HE.out _ hk1.out.2).eof
      have cu := (HE.out _ hk1.out.2).ueof
      go_wp2_with fail
      go_ret2
      exact ⟨⟨rfl, _, hk1.out.1⟩, hk1.out.2⟩

set_option maxHeartbeats 8000000 in
set_option maxRecDepth 100000 in
/-- io.ReadAtLeast, where as many bytes are there. -/
theorem readAll_calls (g ga gd n c o m cm i : Nat) (q : Int) (bs : List UInt8) (cs : Array Value) (w : World) (hg : RdrAt w g ga n c i q) (hr : RdB w (some ⟨ga, 0, none⟩) n c bs) (hag : ga < g) (hgd : g < gd)
    (hd : w.heap[gd]? = some (.cells cs 5 (0, 0))) (hos : o + m ≤ cs.size) (hmc : m ≤ cm) (hm0 : 0 < m) (hmi : i + m ≤ n) (hm : m ≤ 4611686018427387904) (hn : n ≤ 4611686018427387904) :
    Calls Tryz.prog 121 #[.iface 104 (.pointer (some ⟨g, 0, none⟩)), .slice (some ⟨gd, o, none⟩) m cm, .int .i64 m] w fun e w' => (e = .returned (.tuple #[.int .i64 m, .nilIface]) ∧ RdrAt w' g ga n c (i + m) (-1) ∧ w'.heap[gd]? = some (.cells (putLs cs o (Lib.byteCells ((bs.drop i).take m))) 5 (0, 0))) ∧ Ex (fun k => k = g ∨ k = gd) w w' := by
  have hDr : ∀ {wr w2 : World}, Below wr.drew.heap.size wr.drew w2 → Below wr.heap.size wr w2 := fun h => bel_then (bel_drew (Below.refl _ _)) h
  have hmk : m - 0 = m := Nat.sub_zero m
  have HW := Kp.mk (And.intro hg (And.intro hr hd))
  have HX := Kp.mk (And.intro hag (And.intro hgd (And.intro hmi (And.intro hn (And.intro hm hos)))))
  clear hg hr hd hag hgd hn hmi hos
  go_enter Tryz.func121, Tryz.ntmps121
  go_wp2
  go_loopw [6, 7] (fun vn ve' wr => (vn = .int .i64 0 ∧ ve' = .nilIface ∧ Kp (RdrAt wr g ga n c i q ∧ RdB wr (some ⟨ga, 0, none⟩) n c bs ∧ wr.heap[gd]? = some (.cells cs 5 (0, 0)) ∧ Ex (fun k => k = g ∨ k = gd) w wr)) ∨ (vn = .int .i64 m ∧ ve' = .nilIface ∧ Kp (RdrAt wr g ga n c (i + m) (-1) ∧ wr.heap[gd]? = some (.cells (putLs cs o (Lib.byteCells ((bs.drop i).take m))) 5 (0, 0)) ∧ Ex (fun k => k = g ∨ k = gd) w wr)))
    (fun vn _ _ => m - (intOf vn).toNat)
  case atStart => exact .inl ⟨rfl, rfl, ⟨HW.out.1, HW.out.2.1, HW.out.2.2, Ex.refl _ _⟩⟩
  case round =>
    obtain ⟨rfl, rfl, hk1⟩ | ⟨rfl, rfl, hk1⟩ := hrel
    · go_wp2_with fail
      refine wp_region_grow (by kernel_rfl) 7 (by decide) (apart_of (by kernel_rfl)) (by kernel_rfl) (rlG g gd o m cm 0) (fun _ _ _ _ => True) (fun _ _ _ _ h _ => by unfold rlG at *; exact h) ?_ ?_
      · intro j hj ob ho vs w2 hb hpre
        rcases j with _ | _ | _ | _ | _ | _ | _ | j
        · obtain rfl := Option.some.inj ho
          simp only [canon, List.range, List.range.loop, List.foldl]
          go_simp
          exact ⟨rfl, Below.refl _ _⟩
        · obtain rfl := Option.some.inj ho
          simp only [canon, List.range, List.range.loop, List.foldl]
          go_simp
          exact ⟨rfl, Below.refl _ _⟩
        · obtain rfl := Option.some.inj ho
          simp only [canon, List.range, List.range.loop, List.foldl]
          go_simp
          exact ⟨rfl, Below.refl _ _⟩
        · obtain rfl := Option.some.inj ho
          have e1 : vs 1 = _ := hpre 1 (by decide) rfl
          have e2 : vs 2 = _ := hpre 2 (by decide) rfl
          have hcut := fun W => cut_off 67 .i64 Tryz.underlying67 gd o m cm 0 (by omega) (by omega) W
          simp only [canon, List.range, List.range.loop, List.foldl]
          go_simp
          exact ⟨rfl, Below.refl _ _⟩
        · obtain rfl := Option.some.inj ho
          have e0 : vs 0 = _ := hpre 0 (by decide) rfl
          simp only [canon, List.range, List.range.loop, List.foldl]
          go_simp
          exact ⟨rfl, Below.refl _ _⟩
        · obtain rfl := Option.some.inj ho
          have e4 : vs 4 = _ := hpre 4 (by decide) rfl
          simp only [canon, List.range, List.range.loop, List.foldl]
          go_simp
          have hna : (nilAhead 453 104 (.pointer (some ⟨g, 0, none⟩)) "Read").run Tryz.prog w2 = .ok (some false) w2 := by kernel_rfl
          rw [hna]
          go_simp
          exact ⟨rfl, Below.refl _ _⟩
        · obtain rfl := Option.some.inj ho
          have e0 : vs 0 = _ := hpre 0 (by decide) rfl
          simp only [canon, List.range, List.range.loop, List.foldl]
          go_simp
          exact ⟨rfl, Below.refl _ _⟩
        · omega
      · intro vs w2 hb hr hd
        have e3 : vs 3 = _ := hr 3 (by omega)
        have e6 : vs 6 = _ := hr 6 (by omega)
        simp only [canon, List.range, List.range.loop, List.foldl]
        refine wpAny_last 7 (by kernel_rfl) ?_
        refine wpOp_go rfl rfl ?_
        go_simp
        go_upon
        refine (readG_calls g ga gd n c o m cm m i q bs cs w2 (blk_keep hk1.out.1 (hDr hb)) (hk1.out.2.1.below (hDr hb)) HX.out.1 HX.out.2.1 (blk_keep hk1.out.2.2.1 (hDr hb)) HX.out.2.2.2.2.2 hm0 (Nat.le_refl _) HX.out.2.2.1 (.inl rfl) hm HX.out.2.2.2.1).mono ?_
        rintro e w3 ⟨⟨rfl, h1, h2⟩, h3⟩
        have HK3 : Kp (RdrAt w3 g ga n c (i + m) (-1) ∧ w3.heap[gd]? = some (.cells (putLs cs o (Lib.byteCells ((bs.drop i).take m))) 5 (0, 0)) ∧ Ex (fun k => k = g ∨ k = gd) w w3) := ⟨h1, h2, (hk1.out.2.2.2.trans (Ex.of_below (hDr hb))).trans h3⟩
        clear h1 h2 h3 hb hr hd hk1
        simp only
        refine wpAny_last 8 (by kernel_rfl) ?_
        refine wpOp_go rfl rfl ?_
        go_simp
        refine wpAny_two 9 10 (by kernel_rfl) ?_ ?_
        · refine wpOp_go rfl rfl ?_
          go_simp
          refine wpAny_two 10 11 (by kernel_rfl) ?_ ?_
          · refine wpOp_go rfl rfl ?_
            go_simp
            refine wpAny_last 11 (by kernel_rfl) ?_
            refine wpOp_go rfl rfl ?_
            go_simp
            refine wpAny_last 12 (by kernel_rfl) ?_
            refine wpOp_go rfl rfl ?_
            go_simp
            refine wpAny_none (by kernel_rfl) ?_ _
            go_wp2
            go_roundw
            case rel => exact .inr ⟨by simp, rfl, HK3⟩
            case measure => simp only [intOf]; omega
          · refine wpOp_go rfl rfl ?_
            go_simp
            refine wpAny_last 10 (by kernel_rfl) ?_
            refine wpOp_go rfl rfl ?_
            go_simp
            refine wpAny_last 12 (by kernel_rfl) ?_
            refine wpOp_go rfl rfl ?_
            go_simp
            refine wpAny_none (by kernel_rfl) ?_ _
            go_wp2
            go_roundw
            case rel => exact .inr ⟨by simp, rfl, HK3⟩
            case measure => simp only [intOf]; omega
        · refine wpOp_go rfl rfl ?_
          go_simp
          refine wpAny_last 9 (by kernel_rfl) ?_
          refine wpOp_go rfl rfl ?_
          go_simp
          refine wpAny_last 11 (by kernel_rfl) ?_
          refine wpOp_go rfl rfl ?_
          go_simp
          refine wpAny_last 12 (by kernel_rfl) ?_
          refine wpOp_go rfl rfl ?_
          go_simp
          refine wpAny_none (by kernel_rfl) ?_ _
          go_wp2
          go_roundw
          case rel => exact .inr ⟨by simp, rfl, HK3⟩
          case measure => simp only [intOf]; omega
    · go_wp2_with fail
      go_ret2
      exact ⟨⟨rfl, hk1.out.1, hk1.out.2.1⟩, hk1.out.2.2⟩

set_option maxHeartbeats 2000000 in
set_option maxRecDepth 100000 in
/-- io.ReadFull, where some bytes are there, but fewer than are asked for. -/
theorem fullLess_calls (g ga gd n c o m cm k i : Nat) (q : Int) (bs : List UInt8) (cs : Array Value) (ve vu vo vn : Value) (w : World) (hg : RdrAt w g ga n c i q) (hr : RdB w (some ⟨ga, 0, none⟩) n c bs) (hag : ga < g) (hgd : g < gd)
    (hd : w.heap[gd]? = some (.cells cs 5 (0, 0))) (hos : o + m ≤ cs.size) (hmc : m ≤ cm) (hk : 0 < k) (hkm : k < m) (hki : i + k = n) (hm : m ≤ 4611686018427387904) (hn : n ≤ 4611686018427387904) (he : ∀ w', Ex (fun k => k = g ∨ k = gd) w w' → RdErrs ve vu vo vn w') :
    Calls Tryz.prog 100 #[.iface 104 (.pointer (some ⟨g, 0, none⟩)), .slice (some ⟨gd, o, none⟩) m cm] w fun e w' => (e = .returned (.tuple #[.int .i64 k, vu]) ∧ ∃ q', RdrAt w' g ga n c n q') ∧ Ex (fun k => k = g ∨ k = gd) w w' := by
  have H := Kp.mk (readLess_calls g ga gd n c o m cm k i q bs cs ve vu vo vn w hg hr hag hgd hd hos hmc hk hkm hki hm hn he)
  clear hg hr hag hgd hd hkm hki hn he hk hm hos hmc
  go_enter Tryz.func100, Tryz.ntmps100
  go_wp2_with fail
  refine H.out.mono ?_
  rintro e w1 ⟨⟨rfl, h1⟩, h3⟩
  have HK := Kp.mk (And.intro h1 h3)
  clear h1 h3 H
  go_wp2_with fail
  go_ret2
  exact ⟨⟨rfl, HK.out.1⟩, HK.out.2⟩

set_option maxHeartbeats 2000000 in
set_option maxRecDepth 100000 in
/-- io.ReadFull, where no byte is asked for. -/
theorem fullNone_calls (g : Nat) (A : Option Addr) (cm : Nat) (w : World) :
    Calls Tryz.prog 100 #[.iface 104 (.pointer (some ⟨g, 0, none⟩)), .slice A 0 cm] w fun e w' => e = .returned (.tuple #[.int .i64 0, .nilIface]) ∧ w = w' := by
  have H : Kp (∀ w, Calls Tryz.prog 121 #[.iface 104 (.pointer (some ⟨g, 0, none⟩)), .slice A 0 cm, .int .i64 0] w fun e w' => e = .returned (.tuple #[.int .i64 0, .nilIface]) ∧ w = w') := ⟨fun w => by
    go_enter Tryz.func121, Tryz.ntmps121
    go_wp2
    go_loopw [6, 7] (fun vn ve' wr => vn = .int .i64 0 ∧ ve' = .nilIface ∧ w = wr) (fun _ _ _ => 0)
    case atStart => exact ⟨rfl, rfl, rfl⟩
    case round =>
      obtain ⟨rfl, rfl, rfl⟩ := hrel
      go_wp2
      go_ret2
      exact ⟨rfl, rfl⟩⟩
  go_enter Tryz.func100, Tryz.ntmps100
  go_wp2_with fail
  refine (H.out _).mono ?_
  rintro e w' ⟨rfl, rfl⟩
  go_wp2_with fail
  go_ret2
  exact ⟨rfl, rfl⟩

end Go.Proofs.YtkcpgcaccgahaaaGreatDoor
namespace Go.Proofs.YtkcpgcaccgahaaaGreatDoor
open Go.RowKit

/-- A reader of the bytes bs: its method Read (function fr); O: the blocks that it may change; D: those on which its state rests. -/
structure Src (T : TypeId) (pv : Value) (fr : FuncId) (bs : List UInt8) (ve vu vo vn : Value) (O D : Nat → Prop) (S : Nat → World → Prop) : Prop where
  meth : ∀ W, (method 453 T pv "Read").run Tryz.prog W = .ok (fr, pv) W
  nila : ∀ W, (nilAhead 453 T pv "Read").run Tryz.prog W = .ok (some false) W
  enter : ∀ args w, (callFunc fr args).run Tryz.prog w = .ok (.enter fr args) w
  read : ∀ k w gd (t : TypeId) (cs : Array Value) o m cm, S k w → ¬ D gd → w.heap[gd]? = some (.cells cs t (0, 0)) → o + m ≤ cs.size → m ≤ cm → 0 < m → m ≤ 9223372036854775807 →
    Calls Tryz.prog fr #[pv, .slice (some ⟨gd, o, none⟩) m cm] w fun e w' => ∃ (j : Nat) (v : Value), j = min m (bs.length - k) ∧ e = .returned (.tuple #[.int .i64 j, v]) ∧ ((v = .nilIface ∧ 0 < j) ∨ (v = ve ∧ j < m)) ∧ S (k + j) w' ∧ w'.heap[gd]? = some (.cells (putLs cs o (Lib.byteCells ((bs.drop k).take j))) t (0, 0)) ∧ Ex (fun x => O x ∨ x = gd) w w'
  frame : ∀ k w w', S k w → Ex (fun x => ¬ D x) w w' → S k w'
  errs : ∀ k w, S k w → RdErrs ve vu vo vn w
  old : ∀ k w, S k w → ∀ x, D x → x < w.heap.size
  own : ∀ x, O x → D x
/-- Such a reader's method ReadByte (function fb). -/
structure Byt (T : TypeId) (pv : Value) (fb : FuncId) (bs : List UInt8) (ve : Value) (O : Nat → Prop) (S : Nat → World → Prop) : Prop where
  meth : ∀ W, (method 453 T pv "ReadByte").run Tryz.prog W = .ok (fb, pv) W
  enter : ∀ args w, (callFunc fb args).run Tryz.prog w = .ok (.enter fb args) w
  byte : ∀ k w b, S k w → bs[k]? = some b → Calls Tryz.prog fb #[pv] w fun e w' => e = .returned (.tuple #[.int .u8 (b.toNat : Int), .nilIface]) ∧ S (k + 1) w' ∧ Ex O w w'
  fin : ∀ k w, S k w → bs[k]? = none → Calls Tryz.prog fb #[pv] w fun e w' => (∃ z : Int, e = .returned (.tuple #[.int .u8 z, ve])) ∧ S k w' ∧ Ex O w w'

theorem Src.drew {T : TypeId} {pv : Value} {fr : FuncId} {bs : List UInt8} {ve vu vo vn : Value} {O D : Nat → Prop} {S : Nat → World → Prop} (H : Src T pv fr bs ve vu vo vn O D S) {k : Nat} {w : World} (h : S k w) (n : Nat) : S k (w.drewN n) := H.frame k w _ h ((Ex.refl _ _).drewN n)
theorem Src.below {T : TypeId} {pv : Value} {fr : FuncId} {bs : List UInt8} {ve vu vo vn : Value} {O D : Nat → Prop} {S : Nat → World → Prop} (H : Src T pv fr bs ve vu vo vn O D S) {k : Nat} {w w' : World} (h : S k w) (hb : Below w.heap.size w w') : S k w' := H.frame k w _ h (Ex.of_below hb)

/-- What operations 0 to 6 of the reading region leave, with nn bytes read. -/
def rlS (T : TypeId) (pv : Value) (gd o m cm nn : Nat) (j : Nat) (v : Value) (_ : World) : Prop :=
  match j with
  | 0 => v = .iface T pv
  | 1 => v = .slice (some ⟨gd, o, none⟩) m cm
  | 2 => v = .int .i64 nn
  | 3 => v = .slice (some ⟨gd, o + nn, none⟩) (m - nn) (cm - nn)
  | 4 => v = .func (Fn.method "Read") #[.iface T pv] #[]
  | 5 => v = .func (Fn.method "Read") #[.iface T pv] #[]
  | 6 => v = .iface T pv
  | _ => True

/-- What such a reading of m bytes leaves, where a are there. -/
def rfV (m a : Nat) (ve vu : Value) : Value := if m ≤ a then .nilIface else if a = 0 then ve else vu
def RfEnd (gd o m k : Nat) (t : TypeId) (cs : Array Value) (bs : List UInt8) (ve vu : Value) (O : Nat → Prop) (S : Nat → World → Prop) (w : World) (e : Ending) (w' : World) : Prop :=
  e = .returned (.tuple #[.int .i64 (min m (bs.length - k) : Nat), rfV m (bs.length - k) ve vu]) ∧ S (k + min m (bs.length - k)) w' ∧ w'.heap[gd]? = some (.cells (putLs cs o (Lib.byteCells ((bs.drop k).take (min m (bs.length - k))))) t (0, 0)) ∧ Ex (fun x => O x ∨ x = gd) w w'
theorem rfEnd_all {gd o m k : Nat} {t : TypeId} {cs : Array Value} {bs : List UInt8} {ve vu : Value} {O : Nat → Prop} {S : Nat → World → Prop} {w w' : World} {j : Nat} (hj : j = min m (bs.length - k)) (hm : m ≤ j) (h : S (k + j) w' ∧ w'.heap[gd]? = some (.cells (putLs cs o (Lib.byteCells ((bs.drop k).take j))) t (0, 0)) ∧ Ex (fun x => O x ∨ x = gd) w w') :
    RfEnd gd o m k t cs bs ve vu O S w (.returned (.tuple #[.int .i64 j, .nilIface])) w' := by
  subst hj
  exact ⟨by rw [rfV, if_pos (by omega)], h⟩
theorem rfEnd_eof {gd o m k : Nat} {t : TypeId} {cs : Array Value} {bs : List UInt8} {ve vu : Value} {O : Nat → Prop} {S : Nat → World → Prop} {w w' : World} {j : Nat} (hj : j = min m (bs.length - k)) (hm : j < m) (h0 : j = 0) (h : S (k + j) w' ∧ w'.heap[gd]? = some (.cells (putLs cs o (Lib.byteCells ((bs.drop k).take j))) t (0, 0)) ∧ Ex (fun x => O x ∨ x = gd) w w') :
    RfEnd gd o m k t cs bs ve vu O S w (.returned (.tuple #[.int .i64 j, ve])) w' := by
  subst hj
  exact ⟨by rw [rfV, if_neg (by omega), if_pos (by omega)], h⟩
theorem rfEnd_ueof {gd o m k : Nat} {t : TypeId} {cs : Array Value} {bs : List UInt8} {ve vu : Value} {O : Nat → Prop} {S : Nat → World → Prop} {w w' : World} {j : Nat} (hj : j = min m (bs.length - k)) (hm : j < m) (h0 : 0 < j) (h : S (k + j) w' ∧ w'.heap[gd]? = some (.cells (putLs cs o (Lib.byteCells ((bs.drop k).take j))) t (0, 0)) ∧ Ex (fun x => O x ∨ x = gd) w w') :
    RfEnd gd o m k t cs bs ve vu O S w (.returned (.tuple #[.int .i64 j, vu])) w' := by
  subst hj
  exact ⟨by rw [rfV, if_neg (by omega), if_neg (by omega)], h⟩
theorem putLs_none (cs : Array Value) (o : Nat) (bs : List UInt8) : putLs cs o (Lib.byteCells (bs.take 0)) = cs := rfl

set_option maxHeartbeats 8000000 in
set_option maxRecDepth 100000 in
/-- io.ReadAtLeast of as many bytes as the slice has. -/
theorem atLeastS_calls (T : TypeId) (pv : Value) (fr : FuncId) (bs : List UInt8) (ve vu vo vn : Value) (O D : Nat → Prop) (S : Nat → World → Prop) (H : Src T pv fr bs ve vu vo vn O D S) (k : Nat) (w : World) (gd : Nat) (t : TypeId) (cs : Array Value) (o m cm : Nat) (hS : S k w) (hD : ¬ D gd) (hd : w.heap[gd]? = some (.cells cs t (0, 0))) (hos : o + m ≤ cs.size) (hmc : m ≤ cm) (hm0 : 0 < m) (hm : m ≤ 4611686018427387904) :
    Calls Tryz.prog 121 #[.iface T pv, .slice (some ⟨gd, o, none⟩) m cm, .int .i64 m] w fun e w' => RfEnd gd o m k t cs bs ve vu O S w e w' := by
  have hDr : ∀ {wr w2 : World}, Below wr.drew.heap.size wr.drew w2 → Below wr.heap.size wr w2 := fun h => bel_then (bel_drew (Below.refl _ _)) h
  have hmk : m - 0 = m := Nat.sub_zero m
  obtain ⟨Te, ue, rfl⟩ := (H.errs _ _ hS).eofE.iface
  obtain ⟨Tu, uu, rfl⟩ := (H.errs _ _ hS).ueofE.iface
  have hq := errV_same (H.errs _ _ hS).eofE
  have hme := H.meth
  have hcf := H.enter
  obtain ⟨j, hj⟩ : ∃ j, j = min m (bs.length - k) := ⟨_, rfl⟩
  have hjm : j ≤ m := by omega
  have HN := Kp.mk H.nila
  have HH := Kp.mk H
  have HW := Kp.mk (And.intro hS hd)
  have HX := Kp.mk (And.intro hD (And.intro hos hj))
  clear H hS hd hD hos hj
  go_enter Tryz.func121, Tryz.ntmps121
  go_wp2
  go_loopw [6, 7] (fun vn ve' wr => (vn = .int .i64 0 ∧ ve' = .nilIface ∧ Kp (S k wr ∧ wr.heap[gd]? = some (.cells cs t (0, 0)) ∧ Ex (fun x => O x ∨ x = gd) w wr)) ∨ (vn = .int .i64 j ∧ ve' = .nilIface ∧ 0 < j ∧ Kp (S (k + j) wr ∧ wr.heap[gd]? = some (.cells (putLs cs o (Lib.byteCells ((bs.drop k).take j))) t (0, 0)) ∧ Ex (fun x => O x ∨ x = gd) w wr)) ∨ (vn = .int .i64 j ∧ ve' = .iface Te ue ∧ j < m ∧ Kp (S (k + j) wr ∧ wr.heap[gd]? = some (.cells (putLs cs o (Lib.byteCells ((bs.drop k).take j))) t (0, 0)) ∧ Ex (fun x => O x ∨ x = gd) w wr)))
    (fun vn ve' _ => 2 * (m - (intOf vn).toNat) + nilOne ve')
  case atStart => exact .inl ⟨rfl, rfl, ⟨HW.out.1, HW.out.2, Ex.refl _ _⟩⟩
  case round =>
    obtain ⟨rfl, rfl, hk1⟩ | ⟨rfl, rfl, hj0, hk1⟩ | ⟨rfl, rfl, hlt, hk1⟩ := hrel
    · go_wp2_with fail
      refine wp_region_grow (by kernel_rfl) 7 (by decide) (apart_of (by kernel_rfl)) (by kernel_rfl) (rlS T pv gd o m cm 0) (fun _ _ _ _ => True) (fun _ _ _ _ h _ => by unfold rlS at *; exact h) ?_ ?_
      · intro jj hj ob ho vs w2 hb hpre
        rcases jj with _ | _ | _ | _ | _ | _ | _ | jj
        · obtain rfl := Option.some.inj ho
          simp only [canon, List.range, List.range.loop, List.foldl]
          go_simp
          exact ⟨rfl, Below.refl _ _⟩
        · obtain rfl := Option.some.inj ho
          simp only [canon, List.range, List.range.loop, List.foldl]
          go_simp
          exact ⟨rfl, Below.refl _ _⟩
        · obtain rfl := Option.some.inj ho
          simp only [canon, List.range, List.range.loop, List.foldl]
          go_simp
          exact ⟨rfl, Below.refl _ _⟩
        · obtain rfl := Option.some.inj ho
          have e1 : vs 1 = _ := hpre 1 (by decide) rfl
          have e2 : vs 2 = _ := hpre 2 (by decide) rfl
          have hcut := fun W => cut_off 67 .i64 Tryz.underlying67 gd o m cm 0 (by omega) (by omega) W
          simp only [canon, List.range, List.range.loop, List.foldl]
          go_simp
          exact ⟨rfl, Below.refl _ _⟩
        · obtain rfl := Option.some.inj ho
          have e0 : vs 0 = _ := hpre 0 (by decide) rfl
          simp only [canon, List.range, List.range.loop, List.foldl]
          go_simp
          exact ⟨rfl, Below.refl _ _⟩
        · obtain rfl := Option.some.inj ho
          have e4 : vs 4 = _ := hpre 4 (by decide) rfl
          simp only [canon, List.range, List.range.loop, List.foldl]
          go_simp
          rw [HN.out w2]
          go_simp
          exact ⟨rfl, Below.refl _ _⟩
        · obtain rfl := Option.some.inj ho
          have e0 : vs 0 = _ := hpre 0 (by decide) rfl
          simp only [canon, List.range, List.range.loop, List.foldl]
          go_simp
          exact ⟨rfl, Below.refl _ _⟩
        · omega
      · intro vs w2 hb hr hd
        have e3 : vs 3 = _ := hr 3 (by omega)
        have e6 : vs 6 = _ := hr 6 (by omega)
        simp only [canon, List.range, List.range.loop, List.foldl]
        refine wpAny_last 7 (by kernel_rfl) ?_
        refine wpOp_go rfl rfl ?_
        go_simp
        refine (HH.out.read k w2 gd t cs o m cm (HH.out.below hk1.out.1 (hDr hb)) HX.out.1 (blk_keep hk1.out.2.1 (hDr hb)) HX.out.2.1 hmc hm0 (by omega)).mono ?_
        rintro e w3 ⟨j2, v, hj2, rfl, hv, h1, h2, h3⟩
        obtain rfl : j2 = j := hj2.trans HX.out.2.2.symm
        have HK3 : Kp (S (k + j2) w3 ∧ w3.heap[gd]? = some (.cells (putLs cs o (Lib.byteCells ((bs.drop k).take j2))) t (0, 0)) ∧ Ex (fun x => O x ∨ x = gd) w w3) := ⟨h1, h2, (hk1.out.2.2.trans (Ex.of_below (hDr hb))).trans h3⟩
        clear h1 h2 h3 hb hr hd hk1 hj2
        rcases hv with ⟨rfl, hj0⟩ | ⟨rfl, hlt⟩
        · simp only
          refine wpAny_last 8 (by kernel_rfl) ?_
          refine wpOp_go rfl rfl ?_
          go_simp
          refine wpAny_two 9 10 (by kernel_rfl) ?_ ?_
          · refine wpOp_go rfl rfl ?_
            go_simp
            refine wpAny_two 10 11 (by kernel_rfl) ?_ ?_
            · refine wpOp_go rfl rfl ?_
              go_simp
              refine wpAny_last 11 (by kernel_rfl) ?_
              refine wpOp_go rfl rfl ?_
              go_simp
              refine wpAny_last 12 (by kernel_rfl) ?_
              refine wpOp_go rfl rfl ?_
              go_simp
              refine wpAny_none (by kernel_rfl) ?_ _
              go_wp2
              go_roundw
              case rel => exact .inr (.inl ⟨by simp, rfl, hj0, HK3⟩)
              case measure => simp only [intOf, nilOne]; omega
            · refine wpOp_go rfl rfl ?_
              go_simp
              refine wpAny_last 10 (by kernel_rfl) ?_
              refine wpOp_go rfl rfl ?_
              go_simp
              refine wpAny_last 12 (by kernel_rfl) ?_
              refine wpOp_go rfl rfl ?_
              go_simp
              refine wpAny_none (by kernel_rfl) ?_ _
              go_wp2
              go_roundw
              case rel => exact .inr (.inl ⟨by simp, rfl, hj0, HK3⟩)
              case measure => simp only [intOf, nilOne]; omega
          · refine wpOp_go rfl rfl ?_
            go_simp
            refine wpAny_last 9 (by kernel_rfl) ?_
            refine wpOp_go rfl rfl ?_
            go_simp
            refine wpAny_last 11 (by kernel_rfl) ?_
            refine wpOp_go rfl rfl ?_
            go_simp
            refine wpAny_last 12 (by kernel_rfl) ?_
            refine wpOp_go rfl rfl ?_
            go_simp
            refine wpAny_none (by kernel_rfl) ?_ _
            go_wp2
            go_roundw
            case rel => exact .inr (.inl ⟨by simp, rfl, hj0, HK3⟩)
            case measure => simp only [intOf, nilOne]; omega
        · simp only
          refine wpAny_last 8 (by kernel_rfl) ?_
          refine wpOp_go rfl rfl ?_
          go_simp
          refine wpAny_two 9 10 (by kernel_rfl) ?_ ?_
          · refine wpOp_go rfl rfl ?_
            go_simp
            refine wpAny_two 10 11 (by kernel_rfl) ?_ ?_
            · refine wpOp_go rfl rfl ?_
              go_simp
              refine wpAny_last 11 (by kernel_rfl) ?_
              refine wpOp_go rfl rfl ?_
              go_simp
              refine wpAny_last 12 (by kernel_rfl) ?_
              refine wpOp_go rfl rfl ?_
              go_simp
              refine wpAny_none (by kernel_rfl) ?_ _
              go_wp2
              go_roundw
              case rel => exact .inr (.inr ⟨by simp, rfl, hlt, HK3⟩)
              case measure => simp only [intOf, nilOne]; omega
            · refine wpOp_go rfl rfl ?_
              go_simp
              refine wpAny_last 10 (by kernel_rfl) ?_
              refine wpOp_go rfl rfl ?_
              go_simp
              refine wpAny_last 12 (by kernel_rfl) ?_
              refine wpOp_go rfl rfl ?_
              go_simp
              refine wpAny_none (by kernel_rfl) ?_ _
              go_wp2
              go_roundw
              case rel => exact .inr (.inr ⟨by simp, rfl, hlt, HK3⟩)
              case measure => simp only [intOf, nilOne]; omega
          · refine wpOp_go rfl rfl ?_
            go_simp
            refine wpAny_last 9 (by kernel_rfl) ?_
            refine wpOp_go rfl rfl ?_
            go_simp
            refine wpAny_last 11 (by kernel_rfl) ?_
            refine wpOp_go rfl rfl ?_
            go_simp
            refine wpAny_last 12 (by kernel_rfl) ?_
            refine wpOp_go rfl rfl ?_
            go_simp
            refine wpAny_none (by kernel_rfl) ?_ _
            go_wp2
            go_roundw
            case rel => exact .inr (.inr ⟨by simp, rfl, hlt, HK3⟩)
            case measure => simp only [intOf, nilOne]; omega
    · by_cases hlt : j < m
      · go_wp2_with fail
        refine wp_region_grow (by kernel_rfl) 7 (by decide) (apart_of (by kernel_rfl)) (by kernel_rfl) (rlS T pv gd o m cm j) (fun _ _ _ _ => True) (fun _ _ _ _ h _ => by unfold rlS at *; exact h) ?_ ?_
        · intro jj hj ob ho vs w2 hb hpre
          rcases jj with _ | _ | _ | _ | _ | _ | _ | jj
          · obtain rfl := Option.some.inj ho
            simp only [canon, List.range, List.range.loop, List.foldl]
            go_simp
            exact ⟨rfl, Below.refl _ _⟩
          · obtain rfl := Option.some.inj ho
            simp only [canon, List.range, List.range.loop, List.foldl]
            go_simp
            exact ⟨rfl, Below.refl _ _⟩
          · obtain rfl := Option.some.inj ho
            simp only [canon, List.range, List.range.loop, List.foldl]
            go_simp
            exact ⟨rfl, Below.refl _ _⟩
          · obtain rfl := Option.some.inj ho
            have e1 : vs 1 = _ := hpre 1 (by decide) rfl
            have e2 : vs 2 = _ := hpre 2 (by decide) rfl
            have hcut := fun W => cut_off 67 .i64 Tryz.underlying67 gd o m cm j (by omega) (by omega) W
            simp only [canon, List.range, List.range.loop, List.foldl]
            go_simp
            exact ⟨rfl, Below.refl _ _⟩
          · obtain rfl := Option.some.inj ho
            have e0 : vs 0 = _ := hpre 0 (by decide) rfl
            simp only [canon, List.range, List.range.loop, List.foldl]
            go_simp
            exact ⟨rfl, Below.refl _ _⟩
          · obtain rfl := Option.some.inj ho
            have e4 : vs 4 = _ := hpre 4 (by decide) rfl
            simp only [canon, List.range, List.range.loop, List.foldl]
            go_simp
            rw [HN.out w2]
            go_simp
            exact ⟨rfl, Below.refl _ _⟩
          · obtain rfl := Option.some.inj ho
            have e0 : vs 0 = _ := hpre 0 (by decide) rfl
            simp only [canon, List.range, List.range.loop, List.foldl]
            go_simp
            exact ⟨rfl, Below.refl _ _⟩
          · omega
        · intro vs w2 hb hr hd
          have e3 : vs 3 = _ := hr 3 (by omega)
          have e6 : vs 6 = _ := hr 6 (by omega)
          simp only [canon, List.range, List.range.loop, List.foldl]
          refine wpAny_last 7 (by kernel_rfl) ?_
          refine wpOp_go rfl rfl ?_
          go_simp
          refine (HH.out.read (k + j) w2 gd t _ (o + j) (m - j) (cm - j) (HH.out.below hk1.out.1 (hDr hb)) HX.out.1 (blk_keep hk1.out.2.1 (hDr hb)) (by rw [putLs_size]; have := HX.out.2.1; omega) (by omega) (by omega) (by omega)).mono ?_
          rintro e w3 ⟨j2, v, hj2, rfl, hv, h1, h2, h3⟩
          obtain rfl : j2 = 0 := by have := HX.out.2.2; omega
          rw [putLs_none] at h2
          obtain rfl : v = .iface Te ue := by rcases hv with h | h; omega; exact h.1
          have HK3 : Kp (S (k + j) w3 ∧ w3.heap[gd]? = some (.cells (putLs cs o (Lib.byteCells ((bs.drop k).take j))) t (0, 0)) ∧ Ex (fun x => O x ∨ x = gd) w w3) := ⟨h1, h2, (hk1.out.2.2.trans (Ex.of_below (hDr hb))).trans h3⟩
          clear h1 h2 h3 hb hr hd hk1 hj2 hv
          simp only
          refine wpAny_last 8 (by kernel_rfl) ?_
          refine wpOp_go rfl rfl ?_
          go_simp
          refine wpAny_two 9 10 (by kernel_rfl) ?_ ?_
          · refine wpOp_go rfl rfl ?_
            go_simp
            refine wpAny_two 10 11 (by kernel_rfl) ?_ ?_
            · refine wpOp_go rfl rfl ?_
              go_simp
              refine wpAny_last 11 (by kernel_rfl) ?_
              refine wpOp_go rfl rfl ?_
              go_simp
              refine wpAny_last 12 (by kernel_rfl) ?_
              refine wpOp_go rfl rfl ?_
              go_simp
              refine wpAny_none (by kernel_rfl) ?_ _
              go_wp2
              go_roundw
              case rel => exact .inr (.inr ⟨by simp, rfl, hlt, HK3⟩)
              case measure => simp only [intOf, nilOne]; omega
            · refine wpOp_go rfl rfl ?_
              go_simp
              refine wpAny_last 10 (by kernel_rfl) ?_
              refine wpOp_go rfl rfl ?_
              go_simp
              refine wpAny_last 12 (by kernel_rfl) ?_
              refine wpOp_go rfl rfl ?_
              go_simp
              refine wpAny_none (by kernel_rfl) ?_ _
              go_wp2
              go_roundw
              case rel => exact .inr (.inr ⟨by simp, rfl, hlt, HK3⟩)
              case measure => simp only [intOf, nilOne]; omega
          · refine wpOp_go rfl rfl ?_
            go_simp
            refine wpAny_last 9 (by kernel_rfl) ?_
            refine wpOp_go rfl rfl ?_
            go_simp
            refine wpAny_last 11 (by kernel_rfl) ?_
            refine wpOp_go rfl rfl ?_
            go_simp
            refine wpAny_last 12 (by kernel_rfl) ?_
            refine wpOp_go rfl rfl ?_
            go_simp
            refine wpAny_none (by kernel_rfl) ?_ _
            go_wp2
            go_roundw
            case rel => exact .inr (.inr ⟨by simp, rfl, hlt, HK3⟩)
            case measure => simp only [intOf, nilOne]; omega
      · go_wp2_with fail
        go_ret2
        exact rfEnd_all HX.out.2.2 (by omega) hk1.out
    · have HE := HH.out.errs _ _ hk1.out.1
      have ce := HE.eof
      have cu := HE.ueof
      clear HE
      by_cases h0 : j = 0
      · have hz : ((j : Int) = 0) := by omega
        subst h0
        go_wp2_with fail
        go_ret2
        exact rfEnd_eof HX.out.2.2 hlt rfl hk1.out
      · go_wp2_with fail
        go_ret2
        exact rfEnd_ueof HX.out.2.2 hlt (by omega) hk1.out

set_option maxHeartbeats 2000000 in
set_option maxRecDepth 100000 in
/-- io.ReadFull. -/
theorem fullS_calls (T : TypeId) (pv : Value) (fr : FuncId) (bs : List UInt8) (ve vu vo vn : Value) (O D : Nat → Prop) (S : Nat → World → Prop) (H : Src T pv fr bs ve vu vo vn O D S) (k : Nat) (w : World) (gd : Nat) (t : TypeId) (cs : Array Value) (o m cm : Nat) (hS : S k w) (hD : ¬ D gd) (hd : w.heap[gd]? = some (.cells cs t (0, 0))) (hos : o + m ≤ cs.size) (hmc : m ≤ cm) (hm0 : 0 < m) (hm : m ≤ 4611686018427387904) :
    Calls Tryz.prog 100 #[.iface T pv, .slice (some ⟨gd, o, none⟩) m cm] w fun e w' => RfEnd gd o m k t cs bs ve vu O S w e w' := by
  have HF := Kp.mk (atLeastS_calls T pv fr bs ve vu vo vn O D S H k w gd t cs o m cm hS hD hd hos hmc hm0 hm)
  have hv : ∃ v, v = rfV m (bs.length - k) ve vu := ⟨_, rfl⟩
  obtain ⟨v, hv⟩ := hv
  obtain ⟨j, hj⟩ : ∃ j, j = min m (bs.length - k) := ⟨_, rfl⟩
  have HV := Kp.mk (And.intro hv hj)
  clear H hS hd hD hos hmc hm0 hm hv hj
  go_enter Tryz.func100, Tryz.ntmps100
  go_wp2_with fail
  refine HF.out.mono ?_
  rintro e w1 ⟨he, h2⟩
  rw [← HV.out.1, ← HV.out.2] at he
  subst he
  have HK := Kp.mk h2
  clear h2 HF
  go_wp2_with fail
  go_ret2
  exact ⟨by rw [HV.out.1, HV.out.2]; rfl, HK.out⟩

set_option maxHeartbeats 2000000 in
set_option maxRecDepth 100000 in
/-- io.ReadFull, where no byte is asked for. -/
theorem fullZ_calls (T : TypeId) (pv : Value) (A : Option Addr) (cm : Nat) (w : World) :
    Calls Tryz.prog 100 #[.iface T pv, .slice A 0 cm] w fun e w' => e = .returned (.tuple #[.int .i64 0, .nilIface]) ∧ w = w' := by
  have H : Kp (∀ w, Calls Tryz.prog 121 #[.iface T pv, .slice A 0 cm, .int .i64 0] w fun e w' => e = .returned (.tuple #[.int .i64 0, .nilIface]) ∧ w = w') := ⟨fun w => by
    go_enter Tryz.func121, Tryz.ntmps121
    go_wp2
    go_loopw [6, 7] (fun vn ve' wr => vn = .int .i64 0 ∧ ve' = .nilIface ∧ w = wr) (fun _ _ _ => 0)
    case atStart => exact ⟨rfl, rfl, rfl⟩
    case round =>
      obtain ⟨rfl, rfl, rfl⟩ := hrel
      go_wp2_with fail
      go_ret2
      exact ⟨rfl, rfl⟩⟩
  go_enter Tryz.func100, Tryz.ntmps100
  go_wp2_with fail
  refine (H.out w).mono ?_
  rintro e w1 ⟨rfl, rfl⟩
  go_wp2_with fail
  go_ret2
  exact ⟨rfl, rfl⟩

end Go.Proofs.YtkcpgcaccgahaaaGreatDoor
