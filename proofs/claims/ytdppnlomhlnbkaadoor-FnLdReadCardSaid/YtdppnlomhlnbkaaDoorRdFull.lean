/- The walks of io.ReadAtLeast and io.ReadFull over a bytes.Reader with as many bytes. -/
import Derived.Test.YtdppnlomhlnbkaaDoorRdr
import Derived.Handy
namespace Go.Proofs.YtdppnlomhlnbkaaDoor
open Go.RowKit

/-- What operations 0 to 6 of the reading region leave. -/
def rlR (g gd m : Nat) (j : Nat) (v : Value) (_ : World) : Prop :=
  match j with
  | 0 => v = .iface 65 (.pointer (some ⟨g, 0, none⟩))
  | 1 => v = .slice (some ⟨gd, 0, none⟩) m m
  | 2 => v = .int .i64 0
  | 3 => v = .slice (some ⟨gd, 0, none⟩) m m
  | 4 => v = .func (Fn.method "Read") #[.iface 65 (.pointer (some ⟨g, 0, none⟩))] #[]
  | 5 => v = .func (Fn.method "Read") #[.iface 65 (.pointer (some ⟨g, 0, none⟩))] #[]
  | 6 => v = .iface 65 (.pointer (some ⟨g, 0, none⟩))
  | _ => True

set_option maxHeartbeats 4000000 in
set_option maxRecDepth 100000 in
/-- io.ReadAtLeast, where m bytes are there. -/
theorem readAtLeast_calls (g ga gd n c m i : Nat) (q : Int) (bs : List UInt8) (w : World) (hg : RdrAt w g ga n c i q) (hr : RdB w (some ⟨ga, 0, none⟩) n c bs) (hag : ga < g) (hgd : g < gd)
    (hd : w.heap[gd]? = some (.cells (zeros m) 5 (0, 0))) (hm : 0 < m) (hmi : i + m ≤ n) (hn : n ≤ 4611686018427387904) :
    Calls Tryd.prog 61 #[.iface 65 (.pointer (some ⟨g, 0, none⟩)), .slice (some ⟨gd, 0, none⟩) m m, .int .i64 m] w fun e w' => (e = .returned (.tuple #[.int .i64 m, .nilIface]) ∧ RdrAt w' g ga n c (i + m) (-1) ∧ RdB w' (some ⟨gd, 0, none⟩) m m ((bs.drop i).take m)) ∧ Below g w w' := by
  have hDr : ∀ {wr w2 : World}, Below wr.drew.heap.size wr.drew w2 → Below wr.heap.size wr w2 := fun h => bel_then (bel_drew (Below.refl _ _)) h
  have hmz : m ≤ 4611686018427387904 := by omega
  have HW := Kp.mk (And.intro hg (And.intro hr hd))
  have HX := Kp.mk (And.intro hm (And.intro hmi (And.intro hn (And.intro hag hgd))))
  clear hg hr hd hmi hn hag hgd
  go_enter Tryd.func61, Tryd.ntmps61
  go_wp2
  go_loopw [6, 7] (fun vn ve wr => ve = .nilIface ∧ (vn = .int .i64 0 ∧ Kp (RdrAt wr g ga n c i q ∧ RdB wr (some ⟨ga, 0, none⟩) n c bs ∧ wr.heap[gd]? = some (.cells (zeros m) 5 (0, 0)) ∧ Below g w wr) ∨ vn = .int .i64 m ∧ Kp (RdrAt wr g ga n c (i + m) (-1) ∧ RdB wr (some ⟨gd, 0, none⟩) m m ((bs.drop i).take m) ∧ Below g w wr)))
    (fun vn _ _ => m - (intOf vn).toNat)
  case atStart => exact ⟨rfl, .inl ⟨rfl, ⟨HW.out.1, HW.out.2.1, HW.out.2.2, Below.refl _ _⟩⟩⟩
  case round =>
    obtain ⟨rfl, ⟨rfl, hk⟩ | ⟨rfl, hk⟩⟩ := hrel
    · go_wp2_with fail
      refine wp_region_grow (by kernel_rfl) 7 (by decide) (apart_of (by kernel_rfl)) (by kernel_rfl) (rlR g gd m) (fun _ _ _ _ => True) (fun _ _ _ _ h _ => by unfold rlR at *; exact h) ?_ ?_
      · intro j hj o ho vs w2 hb hpre
        rcases j with _ | _ | _ | _ | _ | _ | _ | j
        · obtain rfl := Option.some.inj ho
          simp only [canon, List.range, List.range.loop, List.foldl]
          go_simp
          exact ⟨rfl, Below.refl _ _⟩
        · obtain rfl := Option.some.inj ho
          simp only [canon, List.range, List.range.loop, List.foldl]
          go_simp
          exact ⟨rfl, Below.refl _ _⟩
        · obtain rfl := Option.some.inj ho
          simp only [canon, List.range, List.range.loop, List.foldl]
          go_simp
          exact ⟨rfl, Below.refl _ _⟩
        · obtain rfl := Option.some.inj ho
          have e1 : vs 1 = _ := hpre 1 (by decide) rfl
          have e2 : vs 2 = _ := hpre 2 (by decide) rfl
          have hcut := fun W => cut_own 62 .i64 Tryd.underlying62 gd m 0 hm W
          simp only [canon, List.range, List.range.loop, List.foldl]
          go_simp
          exact ⟨rfl, Below.refl _ _⟩
        · obtain rfl := Option.some.inj ho
          have e0 : vs 0 = _ := hpre 0 (by decide) rfl
          simp only [canon, List.range, List.range.loop, List.foldl]
          go_simp
          exact ⟨rfl, Below.refl _ _⟩
        · obtain rfl := Option.some.inj ho
          have e4 : vs 4 = _ := hpre 4 (by decide) rfl
          simp only [canon, List.range, List.range.loop, List.foldl]
          go_simp
          have hna : (nilAhead 280 65 (.pointer (some ⟨g, 0, none⟩)) "Read").run Tryd.prog w2 = .ok (some false) w2 := by kernel_rfl
          rw [hna]
          go_simp
          exact ⟨rfl, Below.refl _ _⟩
        · obtain rfl := Option.some.inj ho
          have e0 : vs 0 = _ := hpre 0 (by decide) rfl
          simp only [canon, List.range, List.range.loop, List.foldl]
          go_simp
          exact ⟨rfl, Below.refl _ _⟩
        · omega
      · intro vs w2 hb hr hd
        have e3 : vs 3 = _ := hr 3 (by omega)
        have e6 : vs 6 = _ := hr 6 (by omega)
        simp only [canon, List.range, List.range.loop, List.foldl]
        refine wpAny_last 7 (by kernel_rfl) ?_
        refine wpOp_go rfl rfl ?_
        go_simp
        go_upon
        refine (read_calls g ga gd n c m i q bs w2 (blk_keep hk.out.1 (hDr hb)) (hk.out.2.1.below (hDr hb)) HX.out.2.2.2.1 HX.out.2.2.2.2 (blk_keep hk.out.2.2.1 (hDr hb)) hm HX.out.2.1 HX.out.2.2.1).mono ?_
        rintro e w3 ⟨⟨rfl, h1, h2⟩, h3⟩
        have HK3 : Kp (RdrAt w3 g ga n c (i + m) (-1) ∧ RdB w3 (some ⟨gd, 0, none⟩) m m ((bs.drop i).take m) ∧ Below g w w3) := ⟨h1, h2, (hk.out.2.2.2.trans ((hDr hb).mono (by have := (Array.getElem?_eq_some_iff.1 hk.out.1).1; omega))).trans h3⟩
        clear h1 h2 h3 hb hr hd hk
        simp only
        refine wpAny_last 8 (by kernel_rfl) ?_
        refine wpOp_go rfl rfl ?_
        go_simp
        refine wpAny_two 9 10 (by kernel_rfl) ?_ ?_
        · refine wpOp_go rfl rfl ?_
          go_simp
          refine wpAny_two 10 11 (by kernel_rfl) ?_ ?_
          · refine wpOp_go rfl rfl ?_
            go_simp
            refine wpAny_last 11 (by kernel_rfl) ?_
            refine wpOp_go rfl rfl ?_
            go_simp
            refine wpAny_last 12 (by kernel_rfl) ?_
            refine wpOp_go rfl rfl ?_
            go_simp
            refine wpAny_none (by kernel_rfl) ?_ _
            go_wp2
            go_roundw
            case rel => exact ⟨rfl, .inr ⟨by simp, HK3⟩⟩
            case measure => simp only [intOf]; omega
          · refine wpOp_go rfl rfl ?_
            go_simp
            refine wpAny_last 10 (by kernel_rfl) ?_
            refine wpOp_go rfl rfl ?_
            go_simp
            refine wpAny_last 12 (by kernel_rfl) ?_
            refine wpOp_go rfl rfl ?_
            go_simp
            refine wpAny_none (by kernel_rfl) ?_ _
            go_wp2
            go_roundw
            case rel => exact ⟨rfl, .inr ⟨by simp, HK3⟩⟩
            case measure => simp only [intOf]; omega
        · refine wpOp_go rfl rfl ?_
          go_simp
          refine wpAny_last 9 (by kernel_rfl) ?_
          refine wpOp_go rfl rfl ?_
          go_simp
          refine wpAny_last 11 (by kernel_rfl) ?_
          refine wpOp_go rfl rfl ?_
          go_simp
          refine wpAny_last 12 (by kernel_rfl) ?_
          refine wpOp_go rfl rfl ?_
          go_simp
          refine wpAny_none (by kernel_rfl) ?_ _
          go_wp2
          go_roundw
          case rel => exact ⟨rfl, .inr ⟨by simp, HK3⟩⟩
          case measure => simp only [intOf]; omega
    · go_wp2_with fail
      go_ret2
      exact ⟨⟨rfl, hk.out.1, hk.out.2.1⟩, hk.out.2.2⟩

end Go.Proofs.YtdppnlomhlnbkaaDoor
