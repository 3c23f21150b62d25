/- The walks of io.ReadFull over a bytes.Reader at its end, and of multihash.Cast of what is no multihash. -/
import Derived.Test.YtldhnabhojfmiaaDoorRRdFullG
import Derived.Test.YtldhnabhojfmiaaDoorRMhA
namespace Go.Proofs.YtldhnabhojfmiaaDoorR
open Go.RowKit

set_option maxHeartbeats 8000000 in
set_option maxRecDepth 100000 in
/-- io.ReadAtLeast, where no byte is there. -/
theorem readNone_calls (g ga gd n c o m cm i : Nat) (q : Int) (ve vu vo vn : Value) (w : World) (hg : RdrAt w g ga n c i q) (hmc : m ≤ cm) (hm0 : 0 < m) (hni : n ≤ i) (hm : m ≤ 4611686018427387904) (he : ∀ w', Ex (fun k => k = g ∨ k = gd) w w' → RdErrs ve vu vo vn w') :
    Calls Tryd.prog 79 #[.iface 77 (.pointer (some ⟨g, 0, none⟩)), .slice (some ⟨gd, o, none⟩) m cm, .int .i64 m] w fun e w' => (e = .returned (.tuple #[.int .i64 0, ve]) ∧ ∃ q', RdrAt w' g ga n c i q') ∧ Ex (fun k => k = g ∨ k = gd) w w' := by
  have hDr : ∀ {wr w2 : World}, Below wr.drew.heap.size wr.drew w2 → Below wr.heap.size wr w2 := fun h => bel_then (bel_drew (Below.refl _ _)) h
  have he0 := he w (Ex.refl _ _)
  obtain ⟨Te, ue, rfl⟩ := he0.eofE.iface
  obtain ⟨Tu, uu, rfl⟩ := he0.ueofE.iface
  have hq := errV_same he0.eofE
  have HW := Kp.mk hg
  have HX := Kp.mk (And.intro hni hm)
  have HE := Kp.mk he
  clear hg he he0 hni
  go_enter Tryd.func79, Tryd.ntmps79
  go_wp2
  go_loopw [6, 7] (fun vn ve' wr => (vn = .int .i64 0 ∧ ve' = .nilIface ∧ Kp (RdrAt wr g ga n c i q ∧ Ex (fun k => k = g ∨ k = gd) w wr)) ∨ (vn = .int .i64 0 ∧ ve' = .iface Te ue ∧ Kp (RdrAt wr g ga n c i q ∧ Ex (fun k => k = g ∨ k = gd) w wr)))
    (fun _ ve' _ => nilOne ve')
  case atStart => exact .inl ⟨rfl, rfl, ⟨HW.out, Ex.refl _ _⟩⟩
  case round =>
    obtain ⟨rfl, rfl, hk1⟩ | ⟨rfl, rfl, hk1⟩ := hrel
    · go_wp2_with fail
      refine wp_region_grow (by kernel_rfl) 7 (by decide) (apart_of (by kernel_rfl)) (by kernel_rfl) (rlG g gd o m cm 0) (fun _ _ _ _ => True) (fun _ _ _ _ h _ => by unfold rlG at *; exact h) ?_ ?_
      · intro j hj ob ho vs w2 hb hpre
        rcases j with _ | _ | _ | _ | _ | _ | _ | j
        · obtain rfl := Option.some.inj ho
          simp only [canon, List.range, List.range.loop, List.foldl]
          go_simp
          exact ⟨rfl, Below.refl _ _⟩
        · obtain rfl := Option.some.inj ho
          simp only [canon, List.range, List.range.loop, List.foldl]
          go_simp
          exact ⟨rfl, Below.refl _ _⟩
        · obtain rfl := Option.some.inj ho
          simp only [canon, List.range, List.range.loop, List.foldl]
          go_simp
          exact ⟨rfl, Below.refl _ _⟩
        · obtain rfl := Option.some.inj ho
          have e1 : vs 1 = _ := hpre 1 (by decide) rfl
          have e2 : vs 2 = _ := hpre 2 (by decide) rfl
          have hcut := fun W => cut_off 71 .i64 Tryd.underlying71 gd o m cm 0 (by omega) (by omega) W
          simp only [canon, List.range, List.range.loop, List.foldl]
          go_simp
          exact ⟨rfl, Below.refl _ _⟩
        · obtain rfl := Option.some.inj ho
          have e0 : vs 0 = _ := hpre 0 (by decide) rfl
          simp only [canon, List.range, List.range.loop, List.foldl]
          go_simp
          exact ⟨rfl, Below.refl _ _⟩
        · obtain rfl := Option.some.inj ho
          have e4 : vs 4 = _ := hpre 4 (by decide) rfl
          simp only [canon, List.range, List.range.loop, List.foldl]
          go_simp
          have hna : (nilAhead 302 77 (.pointer (some ⟨g, 0, none⟩)) "Read").run Tryd.prog w2 = .ok (some false) w2 := by kernel_rfl
          rw [hna]
          go_simp
          exact ⟨rfl, Below.refl _ _⟩
        · obtain rfl := Option.some.inj ho
          have e0 : vs 0 = _ := hpre 0 (by decide) rfl
          simp only [canon, List.range, List.range.loop, List.foldl]
          go_simp
          exact ⟨rfl, Below.refl _ _⟩
        · omega
      · intro vs w2 hb hr hd
        have e3 : vs 3 = _ := hr 3 (by omega)
        have e6 : vs 6 = _ := hr 6 (by omega)
        simp only [canon, List.range, List.range.loop, List.foldl]
        refine wpAny_last 7 (by kernel_rfl) ?_
        refine wpOp_go rfl rfl ?_
        go_simp
        go_upon
        have hvE : w2.cell? ⟨2, 0, none⟩ = some (.iface Te ue) := (HE.out w2 (hk1.out.2.trans (Ex.of_below (hDr hb)))).eof
        refine (readEnd_calls g ga n c i q _ _ _ _ w2 (blk_keep hk1.out.1 (hDr hb)) HX.out.1 hvE).mono ?_
        rintro e w3 ⟨rfl, h1, h3⟩
        have HK3 : Kp (RdrAt w3 g ga n c i q ∧ Ex (fun k => k = g ∨ k = gd) w w3) := ⟨h1, (hk1.out.2.trans (Ex.of_below (hDr hb))).trans (Ex.of_below h3)⟩
        clear h1 h3 hb hr hd hk1 hvE
        simp only
        refine wpAny_last 8 (by kernel_rfl) ?_
        refine wpOp_go rfl rfl ?_
        go_simp
        refine wpAny_two 9 10 (by kernel_rfl) ?_ ?_
        · refine wpOp_go rfl rfl ?_
          go_simp
          refine wpAny_two 10 11 (by kernel_rfl) ?_ ?_
          · refine wpOp_go rfl rfl ?_
            go_simp
            refine wpAny_last 11 (by kernel_rfl) ?_
            refine wpOp_go rfl rfl ?_
            go_simp
            refine wpAny_last 12 (by kernel_rfl) ?_
            refine wpOp_go rfl rfl ?_
            go_simp
            refine wpAny_none (by kernel_rfl) ?_ _
            go_wp2
            go_roundw
            case rel => exact .inr ⟨by simp, rfl, HK3⟩
            case measure => simp only [nilOne]; omega
          · refine wpOp_go rfl rfl ?_
            go_simp
            refine wpAny_last 10 (by kernel_rfl) ?_
            refine wpOp_go rfl rfl ?_
            go_simp
            refine wpAny_last 12 (by kernel_rfl) ?_
            refine wpOp_go rfl rfl ?_
            go_simp
            refine wpAny_none (by kernel_rfl) ?_ _
            go_wp2
            go_roundw
            case rel => exact .inr ⟨by simp, rfl, HK3⟩
            case measure => simp only [nilOne]; omega
        · refine wpOp_go rfl rfl ?_
          go_simp
          refine wpAny_last 9 (by kernel_rfl) ?_
          refine wpOp_go rfl rfl ?_
          go_simp
          refine wpAny_last 11 (by kernel_rfl) ?_
          refine wpOp_go rfl rfl ?_
          go_simp
          refine wpAny_last 12 (by kernel_rfl) ?_
          refine wpOp_go rfl rfl ?_
          go_simp
          refine wpAny_none (by kernel_rfl) ?_ _
          go_wp2
          go_roundw
          case rel => exact .inr ⟨by simp, rfl, HK3⟩
          case measure => simp only [nilOne]; omega
    · have ce := (HE.out _ hk1.out.2).eof
      have cu := (HE.out _ hk1.out.2).ueof
      go_wp2_with fail
      go_ret2
      exact ⟨⟨rfl, _, hk1.out.1⟩, hk1.out.2⟩

set_option maxHeartbeats 2000000 in
set_option maxRecDepth 100000 in
/-- io.ReadFull, where no byte is there. -/
theorem fullEnd_calls (g ga gd n c o m cm i : Nat) (q : Int) (ve vu vo vn : Value) (w : World) (hg : RdrAt w g ga n c i q) (hmc : m ≤ cm) (hm0 : 0 < m) (hni : n ≤ i) (hm : m ≤ 4611686018427387904) (he : ∀ w', Ex (fun k => k = g ∨ k = gd) w w' → RdErrs ve vu vo vn w') :
    Calls Tryd.prog 64 #[.iface 77 (.pointer (some ⟨g, 0, none⟩)), .slice (some ⟨gd, o, none⟩) m cm] w fun e w' => (e = .returned (.tuple #[.int .i64 0, ve]) ∧ ∃ q', RdrAt w' g ga n c i q') ∧ Ex (fun k => k = g ∨ k = gd) w w' := by
  have H := Kp.mk (readNone_calls g ga gd n c o m cm i q ve vu vo vn w hg hmc hm0 hni hm he)
  clear hg hmc hm0 hni hm he
  go_enter Tryd.func64, Tryd.ntmps64
  go_wp2_with fail
  refine H.out.mono ?_
  rintro e w1 ⟨⟨rfl, h1⟩, h3⟩
  have HK := Kp.mk (And.intro h1 h3)
  clear h1 h3 H
  go_wp2_with fail
  go_ret2
  exact ⟨⟨rfl, HK.out.1⟩, HK.out.2⟩

set_option maxHeartbeats 1600000 in
set_option maxRecDepth 100000 in
/-- multihash.Cast of what is no multihash. -/
theorem castBad_calls (A : Option Addr) (n c : Nat) (bs : List UInt8) (w : World) (hr : RdB w A n c bs) (he : MhErrs w) (hn : n ≤ 2147483647) (hm : ∀ code d, mhRead bs ≠ some (code, d, n)) (hl : n = bs.length) :
    Calls Tryd.prog 60 #[.slice A n c] w fun e w' => (∃ a T u, e = .returned (.tuple #[a, .iface T u])) ∧ Below w.heap.size w w' := by
  have HD := Kp.mk (decodeP_calls A n c bs w hr he hn)
  have HM := Kp.mk (And.intro hm hl)
  clear hr he hm hl
  go_enter Tryd.func60, Tryd.ntmps60
  go_wp2_with fail
  refine HD.out.mono ?_
  rintro e w1 ⟨hu, hb⟩
  have hu2 : ∃ a T u, e = .returned (.tuple #[a, .iface T u]) := by
    unfold DdEnd at hu
    split at hu
    · rename_i code d N hmr
      split at hu
      · rename_i hN
        exact absurd hmr (by rw [hN, ← HM.out.2]; exact HM.out.1 _ _)
      · exact hu
    · exact hu
  obtain ⟨a, T, u, rfl⟩ := hu2
  have HB := Kp.mk hb
  clear hb HD hu
  go_wp2_with fail
  go_ret2
  exact ⟨⟨_, _, _, rfl⟩, bel_alloc HB.out _⟩

end Go.Proofs.YtldhnabhojfmiaaDoorR
