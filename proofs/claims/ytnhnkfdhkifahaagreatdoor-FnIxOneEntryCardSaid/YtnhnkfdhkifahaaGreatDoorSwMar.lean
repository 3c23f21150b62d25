/- The walk of (*index.singleWidthIndex).Marshal. -/
import Derived.Test.YtnhnkfdhkifahaaGreatDoorLePut
import Derived.Test.YtnhnkfdhkifahaaGreatDoorRest
namespace Go.Proofs.YtnhnkfdhkifahaaGreatDoor
open Go.RowKit

theorem RdB.under {B : Nat} {w w1 : World} {A : Option Addr} {n c : Nat} {bs : List UInt8} (h : RdB w A n c bs) (hb : Below B w w1) (hA : ∀ g o sp, A = some ⟨g, o, sp⟩ → g < B) : RdB w1 A n c bs :=
  ⟨h.len, h.cap, h.most, fun h0 => by
    obtain ⟨g, o, e, hc⟩ := h.lies h0
    refine ⟨g, o, e, fun i hi => ?_⟩
    have := hc i hi
    exact (World.cell?_of_block (a := ⟨g, o + i, none⟩) (hb.block g (hA g o none e))).trans this⟩

/-- What its line's first operations leave. -/
def smR (b ib : Nat) (A : Option Addr) (n c : Nat) (j : Nat) (v : Value) (_ : World) : Prop :=
  match j with
  | 0 => v = .iface 65 (.pointer (some ⟨b, 0, none⟩))
  | 1 => v = .pointer (some ⟨ib, 0, none⟩)
  | 2 => v = .pointer (some ⟨ib, 0, none⟩)
  | 3 => v = .pointer (some ⟨ib, 2, none⟩)
  | 4 => v = .slice A n c
  | 5 => v = .func (Fn.method "Write") #[.iface 65 (.pointer (some ⟨b, 0, none⟩))] #[]
  | 6 => v = .func (Fn.method "Write") #[.iface 65 (.pointer (some ⟨b, 0, none⟩))] #[]
  | _ => v = .iface 65 (.pointer (some ⟨b, 0, none⟩))
/-- What the others leave. -/
def smR2 (n : Nat) (j : Nat) (v : Value) (_ : World) : Prop :=
  match j with
  | 8 => v = .tuple #[.int .i64 n, .nilIface]
  | 9 => v = .tuple #[.int .i64 n, .nilIface]
  | 10 => v = .int .i64 n
  | 11 => v = .nilIface
  | 12 => v = .int .i64 n
  | 13 => v = .nilIface
  | _ => True

set_option maxHeartbeats 8000000 in
set_option maxRecDepth 100000 in
/-- (*index.singleWidthIndex).Marshal onto a bytes.Buffer. -/
theorem swMarshal_calls (B b ib width len g o n c : Nat) (xs bs : List UInt8) (w : World) (h : Buf B b xs w) (hBw : B ≤ w.heap.size) (hib : w.heap[ib]? = some (.cells #[.int .u32 width, .int .u64 len, .slice (some ⟨g, o, none⟩) n c] 151 (0, 0))) (hr : RdB w (some ⟨g, o, none⟩) n c bs) (hg : g < B) (h0 : 0 < n) (hn : n ≤ 1000000) (hw : width < 2 ^ 32) (hl : xs.length ≤ 1000) :
    Calls Tryz.prog 82 #[.pointer (some ⟨ib, 0, none⟩), .iface 65 (.pointer (some ⟨b, 0, none⟩))] w fun e w' =>
      (∃ m : Nat, e = .returned (.tuple #[.int .u64 m, .nilIface])) ∧ Buf B b (xs ++ Lib.leBytes 4 width ++ Lib.leBytes 8 n ++ bs) w' ∧ Below B w w' ∧ Beside b w w' := by
  have hne : ib ≠ b := by
    rintro rfl
    obtain ⟨_, _, _, hbk, _⟩ := h
    rw [hib] at hbk
    simp at hbk
  have HX := Kp.mk (And.intro h (And.intro hBw (And.intro hr (And.intro hg (And.intro hne (And.intro h0 (And.intro hn hl)))))))
  have HIB := Kp.mk hib
  have HZ1 := Kp.mk (zz32_calls B b width xs w h hBw hw (by omega))
  have c0 := blk_cell hib 0
  have hwn : IntKind.u64.wrap (n : Int) = n := u64_wrap_id _ (by omega) (by omega)
  clear h hBw hib hr hg h0 hn hw hl hne
  go_enter Tryz.func82, Tryz.ntmps82
  go_wp2_with fail
  refine HZ1.out.mono ?_
  rintro e w1 ⟨rfl, hbf, hbl, hbs⟩
  have H1 := Kp.mk (And.intro hbf (And.intro hbl hbs))
  have HI1 := Kp.mk (Beside.blk hbs HIB.out HX.out.2.2.2.2.1 (by decide))
  clear hbf hbl hbs HZ1 c0
  have hs1 : B ≤ w1.heap.size := Nat.le_trans HX.out.2.1 H1.out.2.1.size
  have HZ2 := Kp.mk (zz64_calls B b n _ w1 H1.out.1 hs1 (by have := HX.out.2.2.2.2.2.2.1; omega) (by rw [List.length_append, Lib.leBytes_length]; have := HX.out.2.2.2.2.2.2.2; omega))
  have c2 := blk_cell HI1.out 2
  clear hs1
  go_wp2_with fail
  refine HZ2.out.mono ?_
  rintro e w2 ⟨rfl, hbf, hbl, hbs⟩
  have H2 := Kp.mk (And.intro hbf (And.intro (H1.out.2.1.trans hbl) (Lib.OthersKept.trans H1.out.2.2 hbs)))
  have HI2 := Kp.mk (Beside.blk hbs HI1.out HX.out.2.2.2.2.1 (by decide))
  clear hbf hbl hbs HZ2 c2 H1 HI1 hwn
  have hs2 : B ≤ w2.heap.size := Nat.le_trans HX.out.2.1 H2.out.2.1.size
  have HS2 := Kp.mk hs2
  clear hs2
  go_wp2_with fail
  refine wp_region_growR (fun u u' => Below u.heap.size u u') (fun _ => Below.refl _ _) (fun _ _ _ h k => bel_then h k) (by kernel_rfl) 8 (by decide) (apart_of (by kernel_rfl)) (by kernel_rfl) (smR b ib (some ⟨g, o, none⟩) n c) (fun _ _ _ _ => True) (fun _ _ _ _ h _ => by unfold smR at *; exact h) ?_ ?_
  · intro j hj ob ho vs w5 hb5 hpre
    have hc2 := blk_cell (blk_keep HI2.out (bel_then (bel_drew (Below.refl w2.heap.size w2)) hb5)) 2
    clear hb5
    rcases j with _ | _ | _ | _ | _ | _ | _ | _ | j
    · obtain rfl := Option.some.inj ho
      simp only [canon, List.range, List.range.loop, List.foldl]
      go_simp
      exact ⟨rfl, Below.refl _ _⟩
    · obtain rfl := Option.some.inj ho
      simp only [canon, List.range, List.range.loop, List.foldl]
      go_simp
      exact ⟨rfl, Below.refl _ _⟩
    · have e1 : vs 1 = _ := hpre 1 (by decide) (by obtain rfl := Option.some.inj ho; rfl)
      obtain rfl := Option.some.inj ho
      simp only [canon, List.range, List.range.loop, List.foldl]
      go_simp
      exact ⟨rfl, Below.refl _ _⟩
    · have e2 : vs 2 = _ := hpre 2 (by decide) (by obtain rfl := Option.some.inj ho; rfl)
      obtain rfl := Option.some.inj ho
      simp only [canon, List.range, List.range.loop, List.foldl]
      go_simp
      exact ⟨rfl, Below.refl _ _⟩
    · have e3 : vs 3 = _ := hpre 3 (by decide) (by obtain rfl := Option.some.inj ho; rfl)
      obtain rfl := Option.some.inj ho
      simp only [canon, List.range, List.range.loop, List.foldl]
      go_simp
      exact ⟨rfl, Below.refl _ _⟩
    · have e0 : vs 0 = _ := hpre 0 (by decide) (by obtain rfl := Option.some.inj ho; rfl)
      obtain rfl := Option.some.inj ho
      simp only [canon, List.range, List.range.loop, List.foldl]
      go_simp
      exact ⟨rfl, Below.refl _ _⟩
    · have e5 : vs 5 = _ := hpre 5 (by decide) (by obtain rfl := Option.some.inj ho; rfl)
      obtain rfl := Option.some.inj ho
      simp only [canon, List.range, List.range.loop, List.foldl]
      go_simp
      have hna : (nilAhead 318 65 (.pointer (some ⟨b, 0, none⟩)) "Write").run Tryz.prog w5 = .ok (some false) w5 := by kernel_rfl
      rw [hna]
      go_simp
      exact ⟨rfl, Below.refl _ _⟩
    · have e0 : vs 0 = _ := hpre 0 (by decide) (by obtain rfl := Option.some.inj ho; rfl)
      obtain rfl := Option.some.inj ho
      simp only [canon, List.range, List.range.loop, List.foldl]
      go_simp
      exact ⟨rfl, Below.refl _ _⟩
    · omega
  · intro vs w5 hb5 hrr _
    have e4 : vs 4 = _ := hrr 4 (by omega)
    have e7 : vs 7 = _ := hrr 7 (by omega)
    have hb25 := bel_then (bel_drew (Below.refl w2.heap.size w2)) hb5
    have hbB := H2.out.2.1.trans (hb25.mono HS2.out)
    have hpos := HX.out.2.2.2.2.2.1
    have HW := Kp.mk (bufWrite_calls B b _ g o n c bs w5 (H2.out.1.below hb25) (HX.out.2.2.1.under hbB (fun g' o' sp e => by
        have e' := Option.some.inj e
        simp only [Addr.mk.injEq] at e'
        have := HX.out.2.2.2.1
        omega)) hpos (by have h1 := HX.out.2.2.2.1; have h2 := H2.out.1.1; omega) (Nat.le_trans HS2.out hb25.size) (by rw [List.length_append, List.length_append, Lib.leBytes_length, Lib.leBytes_length]; have := HX.out.2.2.2.2.2.2; omega))
    have HB5 := Kp.mk (And.intro hbB (Lib.OthersKept.trans H2.out.2.2 (beside_below hb25)))
    clear hb5 hrr hb25 hbB hpos
    simp only [canon, List.range, List.range.loop, List.foldl]
    refine wpAny_last 8 (by kernel_rfl) ?_
    refine wpOp_go rfl rfl ?_
    have hm : ∀ W, (method 318 65 (.pointer (some ⟨b, 0, none⟩)) "Write").run Tryz.prog W = .ok (131, .pointer (some ⟨b, 0, none⟩)) W := fun _ => by kernel_rfl
    go_simp
    clear hm
    refine HW.out.mono ?_
    rintro e w6 ⟨rfl, hbf, hbl, hbs⟩
    have HE := Kp.mk (And.intro hbf (And.intro (HB5.out.1.trans hbl) (Lib.OthersKept.trans HB5.out.2 hbs)))
    clear hbf hbl hbs HW HB5
    simp only
    refine wpAny_restR (fun u u' => Below u.heap.size u u') (fun _ => Below.refl _ _) (fun _ _ _ h k => bel_then h k) 9 14 rfl (by decide) (apart_of (by kernel_rfl)) (by kernel_rfl) (smR2 n) (fun _ _ _ _ h _ => by unfold smR2 at *; exact h) ?_ ?_ ?_
    · intro i hi
      rcases i with _ | _ | _ | _ | _ | _ | _ | _ | _ | i
      all_goals first | trivial | rfl | omega
    · intro j hkj hj ob ho vs w7 hb hpre
      rcases j with _ | _ | _ | _ | _ | _ | _ | _ | _ | _ | _ | _ | _ | _ | j
      iterate 9 (· omega)
      · have e8 : vs 8 = _ := hpre 8 (by decide) (by obtain rfl := Option.some.inj ho; rfl)
        obtain rfl := Option.some.inj ho
        simp only [canon, List.range, List.range.loop, List.foldl]
        go_simp
        exact ⟨rfl, Below.refl _ _⟩
      · have e9 : vs 9 = _ := hpre 9 (by decide) (by obtain rfl := Option.some.inj ho; rfl)
        obtain rfl := Option.some.inj ho
        simp only [canon, List.range, List.range.loop, List.foldl]
        go_simp
        exact ⟨rfl, Below.refl _ _⟩
      · have e9 : vs 9 = _ := hpre 9 (by decide) (by obtain rfl := Option.some.inj ho; rfl)
        obtain rfl := Option.some.inj ho
        simp only [canon, List.range, List.range.loop, List.foldl]
        go_simp
        exact ⟨rfl, Below.refl _ _⟩
      · have e10 : vs 10 = _ := hpre 10 (by decide) (by obtain rfl := Option.some.inj ho; rfl)
        obtain rfl := Option.some.inj ho
        simp only [canon, List.range, List.range.loop, List.foldl]
        go_simp
        exact ⟨rfl, Below.refl _ _⟩
      · have e11 : vs 11 = _ := hpre 11 (by decide) (by obtain rfl := Option.some.inj ho; rfl)
        obtain rfl := Option.some.inj ho
        simp only [canon, List.range, List.range.loop, List.foldl]
        go_simp
        exact ⟨rfl, Below.refl _ _⟩
      · omega
    · intro vs w7 hb hr
      have e12 : vs 12 = _ := hr 12 (by omega)
      have e13 : vs 13 = _ := hr 13 (by omega)
      have HF := Kp.mk (And.intro (HE.out.1.below hb) (And.intro (HE.out.2.1.trans (hb.mono (Nat.le_trans HS2.out (Nat.le_of_eq rfl) |> fun _ => Nat.le_trans HX.out.2.1 HE.out.2.1.size))) (Lib.OthersKept.trans HE.out.2.2 (beside_below hb))))
      clear hb hr HE
      simp only [canon, List.range, List.range.loop, List.foldl]
      rw [e12, e13]
      clear e12 e13
      go_simp
      go_wp2_with fail
      refine bodyPost_ret (results_tmp2 rfl _ _ _) rfl ?_
      exact ⟨⟨_, rfl⟩, HF.out.1, HF.out.2.1, HF.out.2.2⟩

end Go.Proofs.YtnhnkfdhkifahaaGreatDoor
