/- The walks of impl.StHas and laws.FnStHas. Printed by gen-sthas.py. -/
import Derived.Test.YtgjocdnpephcgaaGreatDoorHoldA
import Derived.Test.YtgjocdnpephcgaaGreatDoorIiA
import Derived.Test.YtgjocdnpephcgaaGreatDoorGrowA
import Derived.BigQuiet
namespace Go.Proofs.YtgjocdnpephcgaaGreatDoor
open Go.RowKit

set_option maxHeartbeats 8000000 in
set_option maxRecDepth 100000 in
/-- impl.StHas. -/
theorem implStHas_calls (A : Option Addr) (n c : Nat) (es : List Ent) (v codec code : Nat) (s : ByteArray) (o : OptI) (w : World) (hr : RdE w A n c es) (hok : ∀ e ∈ es, e.ok) (hn : n ≤ 1000) (h : Tidy v codec code s) (hs : s.size ≤ 1073741824) (he : MhErrs w) :
    Calls Tryz.prog 9 #[.slice A n c, .agg #[.int .u64 v, .int .u64 codec, .int .u64 code, .string s], .agg o.cells] w fun e w' => e = .returned (.tuple #[.bool (holdsB es v codec code s o.id o.wh), .bool true]) ∧ Below w.heap.size w w' := by
  have HOC := Kp.mk (fun w => options_calls o w)
  obtain ⟨z, id, dup, wh, v1, tr, dp, ip, oc, mc, mh, ms⟩ := o
  simp only [OptI.cells] at HOC ⊢
  have HB0 := Kp.mk (fun o o2 => bel_alloc (bel_alloc (Below.refl w.heap.size w) o) o2)
  have HN0 := Kp.mk (fun o o2 => blk_new (w := w) (o := o) (bel_alloc (Below.refl _ _) o2))
  have HN1 := Kp.mk (fun o o2 => blk_new2 (w := w) (o := o) (o2 := o2) (Below.refl _ _))
  have HI := Kp.mk (fun w hr he => insertion_calls A n c es w hr hok hn he)
  have HC := Kp.mk (fun w he => cidIn_calls v codec code s w h hs he)
  have HH := Kp.mk (fun B g mc dup w hO he => stHas_calls B g v codec code mc s id dup wh es w hO hok h hs he)
  have HE := Kp.mk he
  have HR := Kp.mk hr
  clear he hr hok hn h hs
  obtain ⟨S, hS⟩ : ∃ S, S = strB (cidB v codec code s) := ⟨_, rfl⟩
  rw [← hS] at HC HH
  clear hS
  generalize hbv : holdsB es v codec code s id wh = bv at HH ⊢
  clear hbv
  generalize keysOf es = K at *
  go_enter Tryz.func9, Tryz.ntmps9
  go_wp2_with fail
  refine (HI.out _ (HR.out.below (HB0.out _ _)) (HE.out.below (HB0.out _ _))).mono ?_
  rintro e w1 ⟨g, rfl, hO, hb⟩
  have HO := Kp.mk hO
  have HB1 := Kp.mk (bel_then (HB0.out _ _) hb)
  have HNC := Kp.mk (blk_keep (HN0.out _ _) hb)
  have HNO := Kp.mk (blk_keep (HN1.out _ _) hb)
  have c0 := blk_cell HNC.out 0
  have c1 := blk_cell HNC.out 1
  have c2 := blk_cell HNC.out 2
  have c3 := blk_cell HNC.out 3
  clear hO hb HI HB0 HN0 HN1
  go_wp2_with fail
  clear c0 c1 c2 c3
  refine (HC.out _ (HE.out.below HB1.out)).mono ?_
  rintro e w2 ⟨rfl, hb⟩
  have hal := bel_alloc (Below.refl w2.heap.size w2) (.cells #[.string S] 45)
  have HB3 := Kp.mk (bel_then (bel_then HB1.out hb) hal)
  have HO3 := Kp.mk ((HO.out.below hb).below hal)
  have HNO3 := Kp.mk (blk_keep (blk_keep HNO.out hb) hal)
  have HX3 := Kp.mk (blk_new (w := w2) (o := .cells #[.string S] 45) (Below.refl _ _))
  have hrg : World.rangeAt (w2.alloc (.cells #[.string S] 45)) (w.heap.size + 1) 0 [.bool z, .bool id, .bool dup, .bool wh, .bool v1, .bool tr, .int .u64 dp, .int .u64 ip, .int .u64 oc, .int .u64 mc, .int .u64 mh, .int .u64 ms] := range_blk HNO3.out
  have HRG := Kp.mk hrg
  clear hb hal hrg HC HO HNC HNO HB1
  go_wp2_with (first | (refine wpList_load_mid rfl 27 _ rfl _ _ rfl [.bool z, .bool id, .bool dup, .bool wh, .bool v1, .bool tr, .int .u64 dp, .int .u64 ip, .int .u64 oc, .int .u64 mc, .int .u64 mh, .int .u64 ms] _ HRG.out Tryz.underlying27 rfl (by kernel_rfl) ?_))
  clear HRG HNO3
  generalize w2.alloc (.cells #[.string S] 45) = w3 at *
  refine (HOC.out _).mono ?_
  rintro e w4 ⟨⟨A4, n4, c4, E4, rfl, hro, h8, h100, hgood⟩, hb⟩
  have HAP := Kp.mk (applyOpts_calls A4 n4 c4 E4 id wh w4 hro h8 h100 hgood.1 hgood.2.1 hgood.2.2.1 hgood.2.2.2)
  have HB4 := Kp.mk (bel_then HB3.out hb)
  have HO4 := Kp.mk (HO3.out.below hb)
  have HX4 := Kp.mk (blk_keep HX3.out hb)
  clear hb hro h8 h100 hgood HOC HO3 HX3 HB3
  go_wp2_with fail
  refine HAP.out.mono ?_
  rintro e w5 ⟨⟨u, hsi, hwh, rfl⟩, hb⟩
  obtain ⟨a0, a1, a2, a3, a4, a5, a6, a7, a8, a9, a10, a11, a12⟩ := u
  simp only at hsi hwh
  subst hsi
  subst hwh
  simp only [Opt13.cells]
  have hal := bel_alloc (Below.refl w5.heap.size w5) (.cells #[.int .u64 a0, .int .u64 a1, .int .u64 a2, .bool a3, .int .u64 a4, .bool a5, .bool a6, .bool a7, .int .u64 a8, .bool a9, .bool a10, .int .u64 a11, .int .u64 a12] 50)
  have HB6 := Kp.mk (bel_then (bel_then HB4.out hb) hal)
  have HO6 := Kp.mk ((HO4.out.below hb).below hal)
  have c0 := blk_cell (blk_keep (blk_keep HX4.out hb) hal) 0
  have hn := blk_new (w := w5) (o := .cells #[.int .u64 a0, .int .u64 a1, .int .u64 a2, .bool a3, .int .u64 a4, .bool a5, .bool a6, .bool a7, .int .u64 a8, .bool a9, .bool a10, .int .u64 a11, .int .u64 a12] 50) (Below.refl _ _)
  have d4 := blk_cell hn 4
  have d5 := blk_cell hn 5
  have d6 := blk_cell hn 6
  have d7 := blk_cell hn 7
  clear hb hal hn HAP HO4 HX4 HB4
  go_wp2_with fail
  clear c0 d4 d5 d6 d7
  refine (HH.out _ _ _ _ _ HO6.out (HE.out.below HB6.out)).mono ?_
  rintro e w7 ⟨rfl, hb⟩
  have HB7 := Kp.mk (bel_then HB6.out hb)
  clear hb HH HO6 HB6
  go_wp2_with fail
  go_quiet (fail)
  go_wp2
  refine bodyPost_ret (results_tmp2 rfl _ _ _) rfl ?_
  exact ⟨rfl, bel_drewN HB7.out _⟩

/-- What the operations of its last line leave. -/
def shR (A : Option Addr) (n c : Nat) (es : List Ent) (v codec code : Nat) (s : ByteArray) (o : OptI) (bv : Bool) (j : Nat) (u : Value) (w : World) : Prop :=
  match j with
  | 0 => u = .bool true
  | 1 => u = .bool true
  | 2 => u = .bool bv
  | 3 => u = .slice A n c
  | 4 => ∃ A' c', u = .slice A' n c' ∧ RdC w A' n es
  | 5 => u = .agg #[.int .u64 v, .int .u64 codec, .int .u64 code, .string s]
  | 6 => u = .agg o.cells
  | 7 => u = .bool bv
  | _ => u = .bool true
theorem shR_keep {A : Option Addr} {n c : Nat} {es : List Ent} {v codec code : Nat} {s : ByteArray} {o : OptI} {bv : Bool} (j : Nat) (u : Value) (w w' : World) (h : shR A n c es v codec code s o bv j u w) (hb : Below w.heap.size w w') : shR A n c es v codec code s o bv j u w' := by
  unfold shR at *
  split at h <;> first | exact h | (obtain ⟨A', c', e, hh⟩ := h; exact ⟨A', c', e, hh.below hb⟩)

set_option maxHeartbeats 8000000 in
set_option maxRecDepth 100000 in
/-- laws.FnStHas. -/
theorem fnStHas_walk (A : Option Addr) (n c : Nat) (es : List Ent) (v codec code : Nat) (s : ByteArray) (o : OptI) (w : World) (hr : RdE w A n c es) (hc1 : codec < 2 ^ 64) (hc2 : code < 2 ^ 64) (he : MhErrs w) :
    Calls Tryz.prog 3 #[.slice A n c, .agg #[.int .u64 v, .int .u64 codec, .int .u64 code, .string s], .agg o.cells] w fun e w' => e = .returned (.bool true) ∧ Below w.heap.size w w' := by
  have HF7 := Kp.mk (fun w hr => fits7_calls A n c es w hr)
  have HF1 := Kp.mk (fun w => fits1_calls v codec code s w)
  have HSE := Kp.mk (fun w hr => stEntries_calls A n c es w hr)
  have HSC := Kp.mk (fun w => stCid_calls v codec code s w)
  have HTL := Kp.mk (fun w hs => tooLong_calls v codec code s o w hc1 hc2 hs)
  have HST := Kp.mk (fun w hr hok hn h hs he => implStHas_calls A n c es v codec code s o w hr hok hn h hs he)
  have HOF := Kp.mk (fun w hr hn => stOf_calls A n c es w hr hn)
  have HHO := Kp.mk (fun A' c' w hr hn => holds_calls A' n c' es v codec code s o w hr hn)
  have HB0 := Kp.mk (fun o o2 => bel_alloc (bel_alloc (Below.refl w.heap.size w) o) o2)
  have HN0 := Kp.mk (fun o o2 => blk_new (w := w) (o := o) (bel_alloc (Below.refl _ _) o2))
  have HN1 := Kp.mk (fun o o2 => blk_new2 (w := w) (o := o) (o2 := o2) (Below.refl _ _))
  have HR := Kp.mk hr
  have HX := Kp.mk he
  clear hr he hc1 hc2
  show Calls Tryz.prog 3 #[.slice A n c, .agg #[.int .u64 v, .int .u64 codec, .int .u64 code, .string s], .agg #[.bool o.z, .bool o.id, .bool o.dup, .bool o.wh, .bool o.v1, .bool o.tr, .int .u64 o.dp, .int .u64 o.ip, .int .u64 o.codec, .int .u64 o.mc, .int .u64 o.mh, .int .u64 o.ms]] w _
  generalize hbv : holdsB es v codec code s o.id o.wh = bv at HST HHO
  clear hbv
  have HOCC : Kp (o.cells.toList = [.bool o.z, .bool o.id, .bool o.dup, .bool o.wh, .bool o.v1, .bool o.tr, .int .u64 o.dp, .int .u64 o.ip, .int .u64 o.codec, .int .u64 o.mc, .int .u64 o.mh, .int .u64 o.ms]) := ⟨rfl⟩
  go_enter Tryz.func3, Tryz.ntmps3
  go_wp2_with fail
  refine (HF7.out _ (HR.out.below (HB0.out _ _))).mono ?_
  rintro e w1 ⟨rfl, hb⟩
  have HB1 := Kp.mk (bel_then (HB0.out _ _) hb)
  have HC1 := Kp.mk (blk_keep (HN0.out (.cells #[.int .u64 v, .int .u64 codec, .int .u64 code, .string s] 25) _) hb)
  have HO1 : Kp (w1.heap[w.heap.size + 1]? = some (.cells #[.bool o.z, .bool o.id, .bool o.dup, .bool o.wh, .bool o.v1, .bool o.tr, .int .u64 o.dp, .int .u64 o.ip, .int .u64 o.codec, .int .u64 o.mc, .int .u64 o.mh, .int .u64 o.ms] 27 (0, 0))) := ⟨blk_keep (HN1.out _ (.cells #[.bool o.z, .bool o.id, .bool o.dup, .bool o.wh, .bool o.v1, .bool o.tr, .int .u64 o.dp, .int .u64 o.ip, .int .u64 o.codec, .int .u64 o.mc, .int .u64 o.mh, .int .u64 o.ms] 27)) hb⟩
  clear hb HF7 HB0 HN0 HN1
  by_cases h1 : n ≤ 2147483647 ∧ ∀ x ∈ es, x.s.size ≤ 2147483647
  case neg =>
    rw [decide_eq_false h1]
    clear h1
    go_wp2_with fail
    go_ret
    exact ⟨rfl, HB1.out⟩
  rw [decide_eq_true h1]
  clear h1
  have c0 := blk_cell HC1.out 0
  have c1 := blk_cell HC1.out 1
  have c2 := blk_cell HC1.out 2
  have c3 := blk_cell HC1.out 3
  go_wp2_with fail
  clear c0 c1 c2 c3
  refine (HF1.out _).mono ?_
  rintro e w2 ⟨rfl, hb⟩
  have HB2 := Kp.mk (bel_then HB1.out hb)
  have HC2 := Kp.mk (blk_keep HC1.out hb)
  have HO2 := Kp.mk (blk_keep HO1.out hb)
  clear hb HF1 HB1 HC1 HO1
  by_cases h2 : s.size ≤ 2147483647
  case neg =>
    rw [decide_eq_false h2]
    clear h2
    go_wp2_with fail
    go_ret
    exact ⟨rfl, HB2.out⟩
  rw [decide_eq_true h2]
  clear h2
  go_wp2_with fail
  refine (HSE.out _ (HR.out.below HB2.out)).mono ?_
  rintro e w3 ⟨rfl, hb⟩
  have HB3 := Kp.mk (bel_then HB2.out hb)
  have HC3 := Kp.mk (blk_keep HC2.out hb)
  have HO3 := Kp.mk (blk_keep HO2.out hb)
  clear hb HSE HB2 HC2 HO2
  by_cases h3 : n ≤ 60 ∧ ∀ x ∈ es, x.ok
  case neg =>
    rw [decide_eq_false h3]
    clear h3
    go_wp2_with fail
    go_ret
    exact ⟨rfl, HB3.out⟩
  rw [decide_eq_true h3]
  have HN := Kp.mk h3
  clear h3
  have c0 := blk_cell HC3.out 0
  have c1 := blk_cell HC3.out 1
  have c2 := blk_cell HC3.out 2
  have c3 := blk_cell HC3.out 3
  go_wp2_with fail
  clear c0 c1 c2 c3
  refine (HSC.out _).mono ?_
  rintro e w4 ⟨rfl, hb⟩
  have HB4 := Kp.mk (bel_then HB3.out hb)
  have HC4 := Kp.mk (blk_keep HC3.out hb)
  have HO4 := Kp.mk (blk_keep HO3.out hb)
  clear hb HSC HB3 HC3 HO3
  by_cases h4 : Tidy v codec code s ∧ 0 < s.size ∧ s.size ≤ 200
  case neg =>
    rw [decide_eq_false h4]
    clear h4
    go_wp2_with fail
    go_ret
    exact ⟨rfl, HB4.out⟩
  rw [decide_eq_true h4]
  have HT := Kp.mk h4
  clear h4
  have c0 := blk_cell HC4.out 0
  have c1 := blk_cell HC4.out 1
  have c2 := blk_cell HC4.out 2
  have c3 := blk_cell HC4.out 3
  have o0 := blk_cell HO4.out 0
  have o1 := blk_cell HO4.out 1
  have o2 := blk_cell HO4.out 2
  have o3 := blk_cell HO4.out 3
  have o4 := blk_cell HO4.out 4
  have o5 := blk_cell HO4.out 5
  have o6 := blk_cell HO4.out 6
  have o7 := blk_cell HO4.out 7
  have o8 := blk_cell HO4.out 8
  have o9 := blk_cell HO4.out 9
  have o10 := blk_cell HO4.out 10
  have o11 := blk_cell HO4.out 11
  go_wp2_with fail
  clear c0 c1 c2 c3 o0 o1 o2 o3 o4 o5 o6 o7 o8 o9 o10 o11
  refine (HTL.out _ (by have := HT.out.2.2; omega)).mono ?_
  rintro e w5 ⟨⟨r, rfl⟩, hb⟩
  have HB5 := Kp.mk (bel_then HB4.out hb)
  have HC5 := Kp.mk (blk_keep HC4.out hb)
  have HO5 := Kp.mk (blk_keep HO4.out hb)
  clear hb HTL HB4 HC4 HO4
  cases r with
  | true =>
    go_wp2_with fail
    go_ret
    exact ⟨rfl, HB5.out⟩
  | false =>
  have c0 := blk_cell HC5.out 0
  have c1 := blk_cell HC5.out 1
  have c2 := blk_cell HC5.out 2
  have c3 := blk_cell HC5.out 3
  have o0 := blk_cell HO5.out 0
  have o1 := blk_cell HO5.out 1
  have o2 := blk_cell HO5.out 2
  have o3 := blk_cell HO5.out 3
  have o4 := blk_cell HO5.out 4
  have o5 := blk_cell HO5.out 5
  have o6 := blk_cell HO5.out 6
  have o7 := blk_cell HO5.out 7
  have o8 := blk_cell HO5.out 8
  have o9 := blk_cell HO5.out 9
  have o10 := blk_cell HO5.out 10
  have o11 := blk_cell HO5.out 11
  go_wp2_with fail
  clear c0 c1 c2 c3 o0 o1 o2 o3 o4 o5 o6 o7 o8 o9 o10 o11
  refine (HST.out _ (HR.out.below HB5.out) HN.out.2 (by have := HN.out.1; omega) HT.out.1 (by have := HT.out.2.2; omega) (HX.out.below HB5.out)).mono ?_
  rintro e w6 ⟨rfl, hb⟩
  have HB6 := Kp.mk (bel_then HB5.out hb)
  have HC6 := Kp.mk (blk_keep HC5.out hb)
  have HO6 := Kp.mk (blk_keep HO5.out hb)
  clear hb HST HB5 HC5 HO5
  go_wp2_with fail
  refine wp_region_growG (fun u u' => Below u.heap.size u u') (fun _ => Below.refl _ _) (fun _ _ _ h k => bel_then h k) (by kernel_rfl) 11 (by decide) (apart_of (by kernel_rfl)) (by kernel_rfl) (shR A n c es v codec code s o bv) shR_keep ?_ ?_
  · intro j hj ob ho vs w7 hb hpre
    have hb67 := bel_then (bel_drew (Below.refl w6.heap.size w6)) hb
    have HC7 := Kp.mk (blk_keep HC6.out hb67)
    have HO7 := Kp.mk (blk_keep HO6.out hb67)
    have HR7 := Kp.mk (HR.out.below (bel_then HB6.out hb67))
    clear hb hb67
    rcases j with _ | _ | _ | _ | _ | _ | _ | _ | _ | _ | _ | j
    · obtain rfl := Option.some.inj ho
      refine .inl ⟨rfl, ?_⟩
      simp only [canon, List.range, List.range.loop, List.foldl]
      go_simp
      exact ⟨rfl, Below.refl _ _⟩
    · obtain rfl := Option.some.inj ho
      have e0 : vs 0 = _ := hpre 0 (by decide) rfl
      refine .inl ⟨rfl, ?_⟩
      simp only [canon, List.range, List.range.loop, List.foldl]
      go_simp
      exact ⟨rfl, Below.refl _ _⟩
    · obtain rfl := Option.some.inj ho
      have e1 : vs 1 = _ := hpre 1 (by decide) rfl
      refine .inl ⟨wanted_of rfl rfl (Nat.le_of_ble_eq_true rfl) (by decide) (apart_of (by kernel_rfl)) e1, ?_⟩
      simp only [canon, List.range, List.range.loop, List.foldl]
      go_simp
      exact ⟨rfl, Below.refl _ _⟩
    · obtain rfl := Option.some.inj ho
      have e1 : vs 1 = _ := hpre 1 (by decide) rfl
      refine .inl ⟨wanted_of rfl rfl (Nat.le_of_ble_eq_true rfl) (by decide) (apart_of (by kernel_rfl)) e1, ?_⟩
      simp only [canon, List.range, List.range.loop, List.foldl]
      go_simp
      exact ⟨rfl, Below.refl _ _⟩
    · obtain rfl := Option.some.inj ho
      have e1 : vs 1 = _ := hpre 1 (by decide) rfl
      have e3 : vs 3 = _ := hpre 3 (by decide) rfl
      refine .inl ⟨wanted_of rfl rfl (Nat.le_of_ble_eq_true rfl) (by decide) (apart_of (by kernel_rfl)) e1, ?_⟩
      simp only [canon, List.range, List.range.loop, List.foldl]
      go_simp
      refine (HOF.out w7 HR7.out (by have := HN.out.1; omega)).mono ?_
      rintro e w8 ⟨⟨A', c', rfl, hrc⟩, hb8⟩
      exact ⟨⟨A', c', rfl, hrc⟩, hb8⟩
    · obtain rfl := Option.some.inj ho
      have e1 : vs 1 = _ := hpre 1 (by decide) rfl
      have c0 := blk_cell HC7.out 0
      have c1 := blk_cell HC7.out 1
      have c2 := blk_cell HC7.out 2
      have c3 := blk_cell HC7.out 3
      refine .inl ⟨wanted_of rfl rfl (Nat.le_of_ble_eq_true rfl) (by decide) (apart_of (by kernel_rfl)) e1, ?_⟩
      simp only [canon, List.range, List.range.loop, List.foldl]
      go_simp
      exact ⟨rfl, Below.refl _ _⟩
    · obtain rfl := Option.some.inj ho
      have e1 : vs 1 = _ := hpre 1 (by decide) rfl
      have o0 := blk_cell HO7.out 0
      have o1 := blk_cell HO7.out 1
      have o2 := blk_cell HO7.out 2
      have o3 := blk_cell HO7.out 3
      have o4 := blk_cell HO7.out 4
      have o5 := blk_cell HO7.out 5
      have o6 := blk_cell HO7.out 6
      have o7 := blk_cell HO7.out 7
      have o8 := blk_cell HO7.out 8
      have o9 := blk_cell HO7.out 9
      have o10 := blk_cell HO7.out 10
      have o11 := blk_cell HO7.out 11
      refine .inl ⟨wanted_of rfl rfl (Nat.le_of_ble_eq_true rfl) (by decide) (apart_of (by kernel_rfl)) e1, ?_⟩
      simp only [canon, List.range, List.range.loop, List.foldl]
      go_simp
      exact ⟨rfl, Below.refl _ _⟩
    · obtain ⟨A', c', e4, hrc⟩ := hpre 4 (by decide) (by obtain rfl := Option.some.inj ho; rfl)
      obtain rfl := Option.some.inj ho
      have e1 : vs 1 = _ := hpre 1 (by decide) rfl
      have e5 : vs 5 = _ := hpre 5 (by decide) rfl
      have e6 : vs 6 = _ := hpre 6 (by decide) rfl
      refine .inl ⟨wanted_of rfl rfl (Nat.le_of_ble_eq_true rfl) (by decide) (apart_of (by kernel_rfl)) e1, ?_⟩
      simp only [canon, List.range, List.range.loop, List.foldl]
      go_simp
      refine (HHO.out A' c' w7 hrc (by have := HN.out.1; omega)).mono ?_
      rintro e w8 ⟨rfl, hb8⟩
      exact ⟨rfl, hb8⟩
    · obtain rfl := Option.some.inj ho
      have e1 : vs 1 = _ := hpre 1 (by decide) rfl
      have e2 : vs 2 = _ := hpre 2 (by decide) rfl
      have e7 : vs 7 = _ := hpre 7 (by decide) rfl
      refine .inl ⟨wanted_of rfl rfl (Nat.le_of_ble_eq_true rfl) (by decide) (apart_of (by kernel_rfl)) e1, ?_⟩
      simp only [canon, List.range, List.range.loop, List.foldl]
      go_simp
      exact ⟨by first | rfl | simp | (cases bv <;> rfl), Below.refl _ _⟩
    · obtain rfl := Option.some.inj ho
      have e1 : vs 1 = _ := hpre 1 (by decide) rfl
      have e8 : vs 8 = _ := hpre 8 (by decide) rfl
      refine .inl ⟨rfl, ?_⟩
      simp only [canon, List.range, List.range.loop, List.foldl]
      go_simp
      exact ⟨rfl, Below.refl _ _⟩
    · obtain rfl := Option.some.inj ho
      have e9 : vs 9 = _ := hpre 9 (by decide) rfl
      refine .inl ⟨rfl, ?_⟩
      simp only [canon, List.range, List.range.loop, List.foldl]
      go_simp
      exact ⟨rfl, Below.refl _ _⟩
    · omega
  · intro vs w7 hb hr
    have e10 : vs 10 = _ := hr 10 (by omega)
    have HB7 := Kp.mk (bel_then HB6.out (bel_then (bel_drew (Below.refl w6.heap.size w6)) hb))
    refine wpAny_none (by kernel_rfl) ?_ _
    simp only [canon, List.range, List.range.loop, List.foldl]
    rw [e10]
    clear e10 hr hb
    go_simp
    go_wp2_with fail
    go_ret
    exact ⟨rfl, HB7.out⟩

end Go.Proofs.YtgjocdnpephcgaaGreatDoor
