/- Some texts in one: Within, IiFits, IiLoops, OfDig, IiOff, IiLaw. -/
import Derived.Test.YtldhnabhojfmiaaDoorRGetA
import Derived.Maps.OwnOps
import Derived.Maps.Views
import Derived.Test.YtldhnabhojfmiaaDoorRIxA
namespace Go.Proofs.YtldhnabhojfmiaaDoorR
open Go.RowKit Go.Maps

/-- A slice that reads as these numbers. -/
structure RdU (w : World) (A : Option Addr) (n c : Nat) (xs : List Nat) : Prop where
  len : xs.length = n
  lies : 0 < n → ∃ g o, A = some ⟨g, o, none⟩ ∧ ∀ i (h : i < xs.length), w.cell? ⟨g, o + i, none⟩ = some (.int .u64 xs[i])
theorem RdU.below {w w1 : World} {A : Option Addr} {n c : Nat} {xs : List Nat} (h : RdU w A n c xs) (hb : Below w.heap.size w w1) : RdU w1 A n c xs :=
  ⟨h.len, fun h0 => by
    obtain ⟨g, o, e, hc⟩ := h.lies h0
    exact ⟨g, o, e, fun i hi => cell_bel hb (hc i hi)⟩⟩
theorem rdU_own {w : World} {base : Nat} {A : Option Addr} {cap : Nat} {xs : List Nat} (h : w.ownsRow base 23 1 (.slice A xs.length cap) xs.length (xs.map fun (y : Nat) => Value.int .u64 (y : Int))) : RdU w A xs.length cap xs := by
  refine ⟨rfl, fun h0 => ?_⟩
  rcases h.2 with ⟨_, h1⟩ | ⟨g, cap', cur, he, _, hb, hle, _, hs, ht⟩
  · omega
  · simp at he
    obtain ⟨rfl, rfl⟩ := he
    refine ⟨g, 0, rfl, fun i hi => ?_⟩
    rw [blk_cell hb, Nat.zero_add]
    have h2 : (cur.toList.take (xs.length * 1))[i]? = some (.int .u64 xs[i]) := by rw [ht]; simp [hi]
    rw [Nat.mul_one, List.getElem?_take, if_pos hi] at h2
    simpa using h2

/-- A map of numbers that counts so. -/
def MapN (b N : Nat) (w : World) (f : Nat → Int) : Prop := ∃ D : DataW Unit, w.ownsMap Tryd.prog 23 (plainElem Tryd.prog 3) b N D ∧ IsMap D ∧ ∀ x : Nat, x < 18446744073709551616 → D.atKey (.int .u64 x) (.lit (.int .i64 0)) = .lit (.int .i64 (f x))
theorem u64_keyed : Keyed Tryd.prog 23 := int_keyed Tryd.underlying23
theorem u64_wf (x : Nat) (h : x < 18446744073709551616) : (Lit.int .u64 x).wf = true := by
  have h1 : IntKind.u64.min = 0 := rfl
  have h2 : IntKind.u64.max = 18446744073709551615 := rfl
  simp only [Lit.wf, h1, h2, Bool.and_eq_true, decide_eq_true_eq]
  omega
theorem int_zero (w : World) : (zeroValue 3).run Tryd.prog w = .ok (.int .i64 0) w := by kernel_rfl

/-- How often a number stands in a list. -/
def cnt (xs : List Nat) (x : Nat) : Int := ((xs.filter fun y => decide (y = x)).length : Int)
theorem cnt_succ (xs : List Nat) (i : Nat) (h : i < xs.length) (x : Nat) : cnt (xs.take (i + 1)) x = cnt (xs.take i) x + if xs[i] = x then 1 else 0 := by
  unfold cnt
  rw [List.take_succ_eq_append_getElem h, List.filter_append, List.length_append]
  by_cases hx : xs[i] = x <;> simp [hx]
theorem cnt_take_le (xs : List Nat) (i : Nat) (x : Nat) : cnt (xs.take i) x ≤ cnt xs x := by
  unfold cnt
  conv => rhs; rw [← List.take_append_drop i xs, List.filter_append, List.length_append]
  omega
theorem cnt_nonneg (xs : List Nat) (x : Nat) : 0 ≤ cnt xs x := by unfold cnt; omega
theorem cnt_le (xs : List Nat) (x : Nat) : cnt xs x ≤ xs.length := by unfold cnt; have := List.length_filter_le (fun y => decide (y = x)) xs; omega

theorem MapN.put {b N : Nat} {w' : World} {f : Nat → Int} {D : DataW Unit} (hM : IsMap D) (hD : ∀ x : Nat, x < 18446744073709551616 → D.atKey (.int .u64 x) (.lit (.int .i64 0)) = .lit (.int .i64 (f x))) (k : Nat) (z : Int) (hown : w'.ownsMap Tryd.prog 23 (plainElem Tryd.prog 3) b N (D.put (.int .u64 k) (.lit (.int .i64 z)))) :
    MapN b N w' (fun x => if x = k then z else f x) := by
  refine ⟨_, hown, hM.put _ _, fun x hx => ?_⟩
  by_cases h : x = k
  · subst h
    simp only [if_true]
    exact atKey_put_same hM (by unfold WideAt.IsKeyLit; trivial) _ _
  · simp only [if_neg h]
    rw [atKey_put_other (fun e => h (by injection e with e1 e2; omega))]
    exact hD x hx

set_option maxHeartbeats 8000000 in
set_option maxRecDepth 100000 in
/-- laws.stWithin. -/
theorem within_calls (A B : Option Addr) (n c m d : Nat) (xs ys : List Nat) (w : World) (hx : RdU w A n c xs) (hy : RdU w B m d ys) (hpre : xs = ys.take n) (h64 : ∀ y ∈ ys, y < 18446744073709551616) (hm : m ≤ 1000) :
    Calls Tryd.prog 13 #[.slice A n c, .slice B m d] w fun e w' => e = .returned (.bool true) ∧ Below w.heap.size w w' := by
  have hmm := @run_makeMap Tryd.prog
  have HX := Kp.mk hx
  have HY := Kp.mk hy
  have hnm : n ≤ m := by have h1 := hx.len; have h2 := hy.len; rw [hpre, List.length_take] at h1; omega
  have hsub : ∀ x ∈ xs, x ∈ ys := fun x hx => by rw [hpre] at hx; exact List.mem_of_mem_take hx
  have HP := Kp.mk (And.intro hpre (And.intro h64 (And.intro hx.len hy.len)))
  have HS := Kp.mk hsub
  have hM0 : Kp (MapN w.heap.size 0 (w.alloc (.map #[] 0)) (fun _ => 0)) := ⟨⟨.map [], World.ownsMap_made _ _ _ _, isMap_empty, fun _ _ => rfl⟩⟩
  have HB0 := Kp.mk (bel_alloc (Below.refl w.heap.size w) (.map #[] 0))
  clear hx hy hpre h64 hsub
  go_enter Tryd.func13, Tryd.ntmps13
  go_wp2_with fail
  go_loopw [13] (fun vi wr => ∃ i : Nat, vi = .int .i64 (i : Int) ∧ i ≤ m ∧ Kp (MapN w.heap.size i wr (cnt (ys.take i)) ∧ Below w.heap.size w wr))
    (fun vi _ => m - (match vi with | .int _ z => z.toNat | _ => 0))
  case atStart => exact ⟨0, rfl, Nat.zero_le _, ⟨by rw [List.take_zero, show cnt [] = fun _ => 0 from rfl]; exact hM0.out, HB0.out⟩⟩
  case round =>
    obtain ⟨i, rfl, hi, HI⟩ := hrel
    by_cases him : i < m
    · have hil : i < ys.length := by rw [HP.out.2.2.2]; exact him
      obtain ⟨g, o, rfl, hc⟩ := (HY.out.below HI.out.2).lies (by omega)
      have c0 := hc i hil
      have hy64 := HP.out.2.1 _ (List.getElem_mem hil)
      have hcs := Kp.mk (fun x => cnt_succ ys i hil x)
      have hcb := cnt_le (ys.take i) ys[i]
      have hcn := cnt_nonneg (ys.take i) ys[i]
      rw [List.length_take] at hcb
      obtain ⟨y, hyy⟩ : ∃ y, y = ys[i] := ⟨_, rfl⟩
      rw [← hyy] at c0 hy64 hcs hcb hcn
      obtain ⟨D, hown, hMD, hD⟩ := HI.out.1
      have hDD := Kp.mk (And.intro hMD hD)
      clear hc hyy hMD hD
      go_wp2_with (first
        | (at_lookup; refine wpList_lookup_own_int _ rfl _ _ 64 rfl 23 3 .i64 u64_keyed Tryd.underlying64 Tryd.underlying3 (int_zero _) w.heap.size i _ rfl hown _ _ rfl (keyOf_int_mk Tryd.underlying23 (u64_wf y hy64)) ?_; intro z hat hwc)
        | (at_mapUpdate; refine wpList_mapUpdate_own _ rfl _ _ _ 64 rfl 23 3 u64_keyed Tryd.underlying64 _ w.heap.size i _ rfl hown (by unfold maxLen; omega) _ _ _ rfl rfl (keyOf_int_mk Tryd.underlying23 (u64_wf y hy64)) _ [] (plainElem_int Tryd.underlying3 (wrap64_wf _)) ?_; intro w1 hown1 hgrow1)
        | fail)
      have hz : z = cnt (ys.take i) y := by
        have := hDD.out.2 y hy64
        rw [hat] at this
        simpa using this
      have hw : wrap64 (z + 1) = z + 1 := by unfold wrap64; omega
      rw [hw] at hown1
      have hM1 := MapN.put hDD.out.1 hDD.out.2 y (z + 1) hown1
      have hfe : (fun x => if x = y then z + 1 else cnt (ys.take i) x) = cnt (ys.take (i + 1)) := by
        funext x
        rw [hcs.out x]
        by_cases hxy : x = y
        · subst hxy; rw [if_pos rfl, if_pos rfl, hz]
        · rw [if_neg hxy, if_neg (fun e => hxy e.symm)]; omega
      rw [hfe] at hM1
      have hbw : Below w.heap.size w w1 := HI.out.2.trans ⟨hgrow1.os, hgrow1.tape, hgrow1.output, hgrow1.size, fun k hk => hgrow1.block k (by have := HI.out.2.size; omega) (fun e => by injection e with e; omega)⟩
      have HN := Kp.mk (And.intro hM1 hbw)
      clear hfe hM1 hbw hown hown1 hgrow1 hat hz hw
      go_roundw
      case rel => exact ⟨i + 1, by simp, by omega, HN⟩
      case measure => simp; omega
    · have hie : i = m := by omega
      subst hie
      have HM : Kp (MapN w.heap.size i wr (cnt ys) ∧ Below w.heap.size w wr) := ⟨by have := HI.out; rw [List.take_of_length_le (by rw [HP.out.2.2.2]; exact Nat.le_refl _)] at this; exact this⟩
      clear HI
      go_wp2_with fail
      go_loopw [24] (fun vi wq => ∃ j : Nat, vi = .int .i64 (j : Int) ∧ j ≤ n ∧ Kp (MapN w.heap.size (i + j) wq (fun x => cnt ys x - cnt (xs.take j) x) ∧ Below w.heap.size w wq))
        (fun vi _ => n - (match vi with | .int _ z => z.toNat | _ => 0))
      case atStart => exact ⟨0, rfl, Nat.zero_le _, ⟨by
        have e : (fun x => cnt ys x - cnt (xs.take 0) x) = cnt ys := by
          funext x
          show cnt ys x - 0 = _
          omega
        rw [e]
        exact HM.out.1, HM.out.2⟩⟩
      case round =>
        obtain ⟨j, rfl, hj, HJ⟩ := hrel
        by_cases hjn : j < n
        · have hjl : j < xs.length := by rw [HP.out.2.2.1]; exact hjn
          obtain ⟨g, o, rfl, hc⟩ := (HX.out.below HJ.out.2).lies (by omega)
          have c0 := hc j hjl
          have hy64 := HP.out.2.1 _ (HS.out _ (List.getElem_mem hjl))
          have hcs := Kp.mk (fun x => cnt_succ xs j hjl x)
          have hxt : xs.take (j + 1) = ys.take (j + 1) := by
            rw [HP.out.1, List.take_take, Nat.min_eq_left (by omega)]
          have hge : cnt (xs.take (j + 1)) xs[j] ≤ cnt ys xs[j] := by rw [hxt]; exact cnt_take_le _ _ _
          rw [hcs.out, if_pos rfl] at hge
          have hcb := cnt_le ys xs[j]
          have hcn := cnt_nonneg (xs.take j) xs[j]
          have hyl := HP.out.2.2.2
          rw [hyl] at hcb
          obtain ⟨y, hyy⟩ : ∃ y, y = xs[j] := ⟨_, rfl⟩
          rw [← hyy] at c0 hy64 hcs hge hcb hcn
          obtain ⟨D, hown, hMD, hD⟩ := HJ.out.1
          have hDD := Kp.mk (And.intro hMD hD)
          clear hc hyy hMD hD hyl hxt
          go_wp2_with (first
            | (at_lookup; refine wpList_lookup_own_int _ rfl _ _ 64 rfl 23 3 .i64 u64_keyed Tryd.underlying64 Tryd.underlying3 (int_zero _) w.heap.size (i + j + 1) _ rfl hown1 _ _ rfl (keyOf_int_mk Tryd.underlying23 (u64_wf y hy64)) ?_; intro z2 hat2 hwc2
               have hz2 : 0 ≤ z2 := by
                 have h1 := hDD.out.2 y hy64
                 rw [hat] at h1
                 have h2 : z = cnt ys y - cnt (xs.take j) y := by simpa using h1
                 have h3 := atKey_put_same (D := D) (k := .int .u64 y) hDD.out.1 (by unfold WideAt.IsKeyLit; trivial) (.lit (.int .i64 (wrap64 (z - 1)))) (.lit (.int .i64 0))
                 rw [hat2] at h3
                 have h4 : z2 = wrap64 (z - 1) := by simpa using h3
                 rw [h4]
                 unfold wrap64
                 omega)
            | (at_lookup; refine wpList_lookup_own_int _ rfl _ _ 64 rfl 23 3 .i64 u64_keyed Tryd.underlying64 Tryd.underlying3 (int_zero _) w.heap.size (i + j) _ rfl hown _ _ rfl (keyOf_int_mk Tryd.underlying23 (u64_wf y hy64)) ?_; intro z hat hwc)
            | (at_mapUpdate; refine wpList_mapUpdate_own _ rfl _ _ _ 64 rfl 23 3 u64_keyed Tryd.underlying64 _ w.heap.size (i + j) _ rfl hown (by unfold maxLen; omega) _ _ _ rfl rfl (keyOf_int_mk Tryd.underlying23 (u64_wf y hy64)) _ [] (plainElem_int Tryd.underlying3 (wrap64_wf _)) ?_; intro w1 hown1 hgrow1)
            | fail)
          have hz : z = cnt ys y - cnt (xs.take j) y := by
            have := hDD.out.2 y hy64
            rw [hat] at this
            simpa using this
          have hw : wrap64 (z - 1) = z - 1 := by unfold wrap64; omega
          rw [hw] at hown1
          have hM1 := MapN.put hDD.out.1 hDD.out.2 y (z - 1) hown1
          have hfe : (fun x => if x = y then z - 1 else cnt ys x - cnt (xs.take j) x) = (fun x => cnt ys x - cnt (xs.take (j + 1)) x) := by
            funext x
            rw [hcs.out x]
            by_cases hxy : x = y
            · subst hxy; rw [if_pos rfl, if_pos rfl, hz]; omega
            · rw [if_neg hxy, if_neg (fun e => hxy e.symm)]; omega
          rw [hfe] at hM1
          have hbw : Below w.heap.size w w1 := HJ.out.2.trans ⟨hgrow1.os, hgrow1.tape, hgrow1.output, hgrow1.size, fun k hk => hgrow1.block k (by have := HJ.out.2.size; omega) (fun e => by injection e with e; omega)⟩
          have HN := Kp.mk (And.intro hM1 hbw)
          clear hfe hM1 hbw hown hown1 hgrow1 hat hz hw
          go_roundw
          case rel => exact ⟨j + 1, by simp, by omega, HN⟩
          case measure => simp; omega
        · go_wp2_with fail
          go_ret
          exact ⟨rfl, HJ.out.2⟩

end Go.Proofs.YtldhnabhojfmiaaDoorR
namespace Go.Proofs.YtldhnabhojfmiaaDoorR
open Go.RowKit

set_option maxHeartbeats 1000000 in
/-- laws.zzFits8. -/
theorem fits8_calls (E : Ent) (w : World) :
    Calls Tryd.prog 22 #[.agg #[.int .u64 E.v, .int .u64 E.codec, .int .u64 E.code, .string E.s, .int .u64 E.off]] w fun e w' => e = .returned (.bool (decide (E.s.size ≤ 2147483647))) ∧ Below w.heap.size w w' := by
  have HF := Kp.mk (fun o => fits1_calls E.v E.codec E.code E.s (w.alloc o))
  go_enter Tryd.func22, Tryd.ntmps22
  go_wp2_with fail
  refine (HF.out _).mono ?_
  rintro e w1 ⟨rfl, hb⟩
  have HB := Kp.mk (bel_new hb)
  clear hb HF
  by_cases h : E.s.size ≤ 2147483647
  · rw [decide_eq_true h]
    have HH := Kp.mk h
    clear h
    go_wp2_with fail
    go_ret
    exact ⟨by rw [decide_eq_true HH.out]; rfl, HB.out⟩
  · rw [decide_eq_false h]
    have HH := Kp.mk h
    clear h
    go_wp2_with fail
    go_ret
    exact ⟨by rw [decide_eq_false HH.out]; rfl, HB.out⟩

set_option maxHeartbeats 4000000 in
set_option maxRecDepth 100000 in
/-- laws.zzFits7. -/
theorem fits7_calls (A : Option Addr) (n c : Nat) (es : List Ent) (w : World) (hr : RdE w A n c es) :
    Calls Tryd.prog 7 #[.slice A n c] w fun e w' => e = .returned (.bool (decide (n ≤ 2147483647 ∧ ∀ x ∈ es, x.s.size ≤ 2147483647))) ∧ Below w.heap.size w w' := by
  have HR := Kp.mk hr
  have hlen := Kp.mk hr.len
  clear hr
  by_cases hn : n ≤ 2147483647
  case neg =>
    have HD : Kp (decide (n ≤ 2147483647 ∧ ∀ x ∈ es, x.s.size ≤ 2147483647) = false) := ⟨decide_eq_false (fun h => hn h.1)⟩
    rw [HD.out]
    go_enter Tryd.func7, Tryd.ntmps7
    go_wp2_with fail
    go_ret
    exact ⟨rfl, Below.refl _ _⟩
  have HN := Kp.mk hn
  go_enter Tryd.func7, Tryd.ntmps7
  go_wp2_with fail
  go_loopw [10] (fun vi wr => ∃ i : Nat, vi = .int .i64 (i : Int) ∧ i ≤ n ∧ Kp ((∀ x ∈ es.take i, x.s.size ≤ 2147483647) ∧ Below w.heap.size w wr))
    (fun vi _ => n - (match vi with | .int _ z => z.toNat | _ => 0))
  case atStart => exact ⟨0, rfl, Nat.zero_le _, ⟨fun x hx => by simp at hx, Below.refl _ _⟩⟩
  case round =>
    obtain ⟨i, rfl, hi, HI⟩ := hrel
    by_cases hin : i < n
    · have hil : i < es.length := by rw [hlen.out]; exact hin
      obtain ⟨gE, o, rfl, hc⟩ := (HR.out.below HI.out.2).lies (by omega)
      have c0 := hc i hil 0 (by omega)
      have c1 := hc i hil 1 (by omega)
      have c2 := hc i hil 2 (by omega)
      have c3 := hc i hil 3 (by omega)
      have c4 := hc i hil 4 (by omega)
      have HT := Kp.mk (List.take_succ_eq_append_getElem hil)
      have HM := Kp.mk (List.getElem_mem hil)
      obtain ⟨E, hE⟩ : ∃ E, E = es[i] := ⟨_, rfl⟩
      rw [← hE] at c0 c1 c2 c3 c4 HT HM
      simp only [Ent.cell, Nat.add_zero] at c0 c1 c2 c3 c4
      clear hc hE
      have HF := Kp.mk (fun w => fits8_calls E w)
      have HB1 := Kp.mk (fun o => bel_then HI.out.2 (bel_alloc (Below.refl wr.heap.size wr) o))
      go_wp2_with fail
      refine (HF.out _).mono ?_
      rintro e w2 ⟨rfl, hb⟩
      have HB2 := Kp.mk (bel_then (HB1.out _) hb)
      clear hb HF HB1 c0 c1 c2 c3 c4
      by_cases h : E.s.size ≤ 2147483647
      · rw [decide_eq_true h]
        have HH : Kp ((∀ x ∈ es.take (i + 1), x.s.size ≤ 2147483647) ∧ Below w.heap.size w w2) := ⟨fun x hx => by
          rw [HT.out] at hx
          rcases List.mem_append.1 hx with hx | hx
          · exact HI.out.1 x hx
          · simp at hx; subst hx; exact h, HB2.out⟩
        clear h
        go_wp2_with fail
        go_roundw
        case rel => exact ⟨i + 1, by simp, by omega, HH⟩
        case measure => simp; omega
      · rw [decide_eq_false h]
        have HD : Kp (decide (n ≤ 2147483647 ∧ ∀ x ∈ es, x.s.size ≤ 2147483647) = false) := ⟨decide_eq_false (fun hh => h (hh.2 E HM.out))⟩
        clear h
        go_wp2_with fail
        go_ret
        exact ⟨by rw [HD.out]; rfl, HB2.out⟩
    · have hin' : i = n := by omega
      subst hin'
      have HD : Kp (decide (i ≤ 2147483647 ∧ ∀ x ∈ es, x.s.size ≤ 2147483647) = true) := ⟨decide_eq_true ⟨HN.out, by have := HI.out.1; rw [List.take_of_length_le (by rw [hlen.out]; exact Nat.le_refl _)] at this; exact this⟩⟩
      go_wp2_with fail
      go_ret
      exact ⟨by rw [HD.out]; rfl, HI.out.2⟩

end Go.Proofs.YtldhnabhojfmiaaDoorR
namespace Go.Proofs.YtldhnabhojfmiaaDoorR
open Go.RowKit

instance (E : Ent) : Decidable E.ok := by unfold Ent.ok; infer_instance

set_option maxHeartbeats 2000000 in
/-- laws.stCid. -/
theorem stCid_calls (v codec code : Nat) (s : ByteArray) (w : World) :
    Calls Tryd.prog 10 #[.agg #[.int .u64 v, .int .u64 codec, .int .u64 code, .string s]] w fun e w' => e = .returned (.bool (decide (Tidy v codec code s ∧ 0 < s.size ∧ s.size ≤ 200))) ∧ Below w.heap.size w w' := by
  have HT := Kp.mk (fun o => tidy_calls v codec code s (w.alloc o))
  obtain ⟨k, hk⟩ : ∃ k, k = s.size := ⟨_, rfl⟩
  go_enter Tryd.func10, Tryd.ntmps10
  go_wp2_with fail
  refine (HT.out _).mono ?_
  rintro e w1 ⟨rfl, hb⟩
  have HB := Kp.mk (bel_new hb)
  have hg := blk_new hb
  have c3 := blk_cell hg 3
  clear hb HT hg
  by_cases hT : Tidy v codec code s
  · rw [decide_eq_true hT]
    by_cases h0 : 0 < s.size
    · by_cases h2 : s.size ≤ 200
      · have HD : Kp (decide (Tidy v codec code s ∧ 0 < s.size ∧ s.size ≤ 200) = true) := ⟨decide_eq_true ⟨hT, h0, h2⟩⟩
        have HH := Kp.mk h2
        clear hT
        go_wp2_with fail
        go_ret
        refine ⟨?_, HB.out⟩
        rw [HD.out]
        first
          | rfl
          | (have hd : decide ((s.size : Int) ≤ 200) = true := decide_eq_true (by have := HH.out; omega)
             simp only [hd]; rfl)
      · have HD : Kp (decide (Tidy v codec code s ∧ 0 < s.size ∧ s.size ≤ 200) = false) := ⟨decide_eq_false (fun h => h2 h.2.2)⟩
        have HH := Kp.mk h2
        clear hT
        go_wp2_with fail
        go_ret
        refine ⟨?_, HB.out⟩
        rw [HD.out]
        first
          | rfl
          | (have hd : decide ((s.size : Int) ≤ 200) = false := decide_eq_false (by have := HH.out; omega)
             simp only [hd]; rfl)
    · have HD : Kp (decide (Tidy v codec code s ∧ 0 < s.size ∧ s.size ≤ 200) = false) := ⟨decide_eq_false (fun h => h0 h.2.1)⟩
      clear hT
      go_wp2_with fail
      go_ret
      exact ⟨by rw [HD.out]; rfl, HB.out⟩
  · rw [decide_eq_false hT]
    have HD : Kp (decide (Tidy v codec code s ∧ 0 < s.size ∧ s.size ≤ 200) = false) := ⟨decide_eq_false (fun h => hT h.1)⟩
    clear hT
    go_wp2_with fail
    go_ret
    exact ⟨by rw [HD.out]; rfl, HB.out⟩

set_option maxHeartbeats 4000000 in
set_option maxRecDepth 100000 in
/-- laws.stEntries. -/
theorem stEntries_calls (A : Option Addr) (n c : Nat) (es : List Ent) (w : World) (hr : RdE w A n c es) :
    Calls Tryd.prog 9 #[.slice A n c] w fun e w' => e = .returned (.bool (decide (n ≤ 60 ∧ ∀ x ∈ es, x.ok))) ∧ Below w.heap.size w w' := by
  have HR := Kp.mk hr
  have hlen := Kp.mk hr.len
  clear hr
  by_cases hn : n ≤ 60
  case neg =>
    have HD : Kp (decide (n ≤ 60 ∧ ∀ x ∈ es, x.ok) = false) := ⟨decide_eq_false (fun h => hn h.1)⟩
    go_enter Tryd.func9, Tryd.ntmps9
    go_wp2_with fail
    refine wp_loop_rounds 1 ?_
    rw [rounds_succ]
    go_wp2_with fail
    go_ret
    exact ⟨by first | rfl | (rw [HD.out]; rfl) | (rw [HD.out]; simp), Below.refl _ _⟩
  have HN := Kp.mk hn
  go_enter Tryd.func9, Tryd.ntmps9
  go_wp2_with fail
  go_loopw [3, 4] (fun vb vi wr => ∃ i : Nat, vi = .int .i64 (i : Int) ∧ i ≤ n ∧ ((vb = .bool true ∧ Kp (∀ x ∈ es.take i, x.ok)) ∨ (vb = .bool false ∧ Kp (¬ ∀ x ∈ es, x.ok))) ∧ Kp (Below w.heap.size w wr))
    (fun _ vi _ => n - (match vi with | .int _ z => z.toNat | _ => 0))
  case atStart => exact ⟨0, rfl, Nat.zero_le _, .inl ⟨by simp; omega, ⟨fun x hx => by simp at hx⟩⟩, ⟨Below.refl _ _⟩⟩
  case round =>
    obtain ⟨i, rfl, hi, hv, HI⟩ := hrel
    rcases hv with ⟨rfl, HO⟩ | ⟨rfl, HO⟩
    · by_cases hin : i < n
      · have hil : i < es.length := by rw [hlen.out]; exact hin
        obtain ⟨gE, o, rfl, hc⟩ := (HR.out.below HI.out).lies (by omega)
        have c0 := hc i hil 0 (by omega)
        have c1 := hc i hil 1 (by omega)
        have c2 := hc i hil 2 (by omega)
        have c3 := hc i hil 3 (by omega)
        have HT := Kp.mk (List.take_succ_eq_append_getElem hil)
        have HM := Kp.mk (List.getElem_mem hil)
        obtain ⟨E, hE⟩ : ∃ E, E = es[i] := ⟨_, rfl⟩
        rw [← hE] at c0 c1 c2 c3 HT HM
        simp only [Ent.cell, Nat.add_zero] at c0 c1 c2 c3
        clear hc hE
        have HF := Kp.mk (fun w => stCid_calls E.v E.codec E.code E.s w)
        go_wp2_with fail
        refine (HF.out _).mono ?_
        rintro e w2 ⟨rfl, hb⟩
        have HB2 : Kp (Below w.heap.size w w2) := ⟨bel_then HI.out hb⟩
        clear hb HF c0 c1 c2 c3
        by_cases h : Tidy E.v E.codec E.code E.s ∧ 0 < E.s.size ∧ E.s.size ≤ 200
        · rw [decide_eq_true h]
          have HH : Kp (∀ x ∈ es.take (i + 1), x.ok) := ⟨fun x hx => by
            rw [HT.out] at hx
            rcases List.mem_append.1 hx with hx | hx
            · exact HO.out x hx
            · simp at hx; subst hx; exact h⟩
          clear h
          go_wp2_with fail
          go_roundw
          case rel => exact ⟨i + 1, by simp, by omega, .inl ⟨rfl, HH⟩, HB2⟩
          case measure => simp; omega
        · rw [decide_eq_false h]
          have HH : Kp (¬ ∀ x ∈ es, x.ok) := ⟨fun hh => h (hh E HM.out)⟩
          clear h
          go_wp2_with fail
          go_roundw
          case rel => exact ⟨i + 1, by simp, by omega, .inr ⟨rfl, HH⟩, HB2⟩
          case measure => simp; omega
      · have hin' : i = n := by omega
        subst hin'
        have HD : Kp (decide (i ≤ 60 ∧ ∀ x ∈ es, x.ok) = true) := ⟨decide_eq_true ⟨HN.out, by have := HO.out; rw [List.take_of_length_le (by rw [hlen.out]; exact Nat.le_refl _)] at this; exact this⟩⟩
        go_wp2_with fail
        go_ret
        exact ⟨by first | rfl | (rw [HD.out]; rfl) | (rw [HD.out]; simp), HI.out⟩
    · have HD : Kp (decide (n ≤ 60 ∧ ∀ x ∈ es, x.ok) = false) := ⟨decide_eq_false (fun hh => HO.out hh.2)⟩
      go_wp2_with fail
      go_ret
      exact ⟨by first | rfl | (rw [HD.out]; rfl) | (rw [HD.out]; simp), HI.out⟩

end Go.Proofs.YtldhnabhojfmiaaDoorR
namespace Go.Proofs.YtldhnabhojfmiaaDoorR
open Go.RowKit

/-- The offsets of the entries of a digest, in their order. -/
def offsE (s : ByteArray) (es : List Ent) : List Nat := (es.filter fun e => decide (e.s = s)).map (·.off)
theorem offsE_succ (s : ByteArray) (es : List Ent) (i : Nat) (h : i < es.length) : offsE s (es.take (i + 1)) = offsE s (es.take i) ++ if es[i].s = s then [es[i].off] else [] := by
  unfold offsE
  rw [List.take_succ_eq_append_getElem h, List.filter_append, List.map_append]
  by_cases hx : es[i].s = s <;> simp [hx]
theorem bytes_eql (a b : ByteArray) : (a.toList == b.toList) = decide (a = b) := by
  by_cases h : a = b
  · subst h; simp
  · rw [decide_eq_false h, beq_eq_false_iff_ne]
    intro e
    rw [ByteArray.toList_eq, ByteArray.toList_eq] at e
    exact h (by cases a; cases b; simp at e; rw [e])

set_option maxHeartbeats 4000000 in
set_option maxRecDepth 100000 in
/-- spec.OfDigest. -/
theorem ofDigest_calls (A : Option Addr) (n c : Nat) (es : List Ent) (s : ByteArray) (w : World) (hr : RdE w A n c es) (hn : n ≤ 1000) :
    Calls Tryd.prog 11 #[.slice A n c, .string s] w fun e w' => (∃ A' cap, e = .returned (.slice A' (offsE s es).length cap) ∧ w'.ownsRow w.heap.size 23 1 (.slice A' (offsE s es).length cap) (offsE s es).length ((offsE s es).map fun (y : Nat) => Value.int .u64 (y : Int))) ∧ Below w.heap.size w w' := by
  have HR := Kp.mk hr
  have hlen := Kp.mk hr.len
  clear hr
  go_enter Tryd.func11, Tryd.ntmps11
  go_wp2_with fail
  go_loopw [5, 10] (fun vo vi wr => ∃ (i : Nat) (A' : Option Addr) (k cap : Nat), vi = .int .i64 (i : Int) ∧ i ≤ n ∧ vo = .slice A' k cap ∧ Kp (k = (offsE s (es.take i)).length ∧ wr.ownsRow w.heap.size 23 1 (.slice A' k cap) k ((offsE s (es.take i)).map fun (y : Nat) => Value.int .u64 (y : Int)) ∧ Below w.heap.size w wr))
    (fun _ vi _ => n - (match vi with | .int _ z => z.toNat | _ => 0))
  case atStart => exact ⟨0, none, 0, 0, rfl, Nat.zero_le _, rfl, ⟨rfl, ⟨rfl, .inl ⟨rfl, rfl⟩⟩, Below.refl _ _⟩⟩
  case round =>
    obtain ⟨i, A', k, cap, rfl, hi, rfl, HI⟩ := hrel
    by_cases hin : i < n
    · have hil : i < es.length := by rw [hlen.out]; exact hin
      obtain ⟨gE, o, rfl, hc⟩ := (HR.out.below HI.out.2.2).lies (by omega)
      have c0 := hc i hil 0 (by omega)
      have c1 := hc i hil 1 (by omega)
      have c2 := hc i hil 2 (by omega)
      have c3 := hc i hil 3 (by omega)
      have c4 := hc i hil 4 (by omega)
      have HT := Kp.mk (offsE_succ s es i hil)
      obtain ⟨E, hE⟩ : ∃ E, E = es[i] := ⟨_, rfl⟩
      rw [← hE] at c0 c1 c2 c3 c4 HT
      simp only [Ent.cell, Nat.add_zero] at c0 c1 c2 c3 c4
      have hkl : k ≤ 1000 := by
        have h1 := HI.out.1
        have h2 : (offsE s (es.take i)).length ≤ i := by
          unfold offsE
          rw [List.length_map]
          exact Nat.le_trans (List.length_filter_le _ _) (by rw [List.length_take]; omega)
        omega
      obtain ⟨W1, hW1⟩ : ∃ W, W = wr.alloc (.cells #[.int .u64 E.v, .int .u64 E.codec, .int .u64 E.code, .string E.s, .int .u64 E.off] 33) := ⟨_, rfl⟩
      have hb1 : Below wr.heap.size wr W1 := by rw [hW1]; exact bel_alloc (Below.refl _ _) _
      have hb2 := bel_alloc (Below.refl W1.heap.size W1) (.cells #[.int .u64 E.off] 23)
      obtain ⟨A2, cap2, w2, hap, ho2, hex⟩ := append_num w.heap.size k E.off A' cap (offsE s (es.take i)) HI.out.1 (W1.alloc (.cells #[.int .u64 E.off] 23)) (ownsRow_below (ownsRow_below HI.out.2.1 hb1) hb2) (Nat.le_trans (Nat.le_trans HI.out.2.2.size hb1.size) hb2.size) hkl W1.heap.size (blk_cell (blk_new (w := W1) (Below.refl _ _)) 0)
      have hbw : Below w.heap.size w w2 := (bel_then (bel_then HI.out.2.2 hb1) hb2).trans (hex.toBelow (fun k hk hq => by omega) (Nat.le_trans (Nat.le_trans HI.out.2.2.size hb1.size) hb2.size))
      have HN1 := Kp.mk (And.intro ho2 hbw)
      have HN2 := Kp.mk (And.intro (ownsRow_below HI.out.2.1 hb1) (bel_then HI.out.2.2 hb1))
      have hsz : W1.heap.size = wr.heap.size + 1 := by rw [hW1]; simp
      rw [hsz] at hap
      rw [hW1] at hap HN2
      clear hsz
      have HS1 := Kp.mk hW1
      clear hW1
      clear hc hE ho2 hex hbw hb1 hb2 hkl
      by_cases hs : E.s = s
      · have hq := bytes_eql E.s s
        rw [decide_eq_true hs] at hq
        rw [if_pos hs] at HT
        have HS := Kp.mk hs
        clear hs
        go_wp2_with (at_builtin; refine Lib.wpList_append_run _ rfl _ _ _ _ rfl _ _ rfl rfl _ _ hap ?_)
        go_roundw
        case rel => exact ⟨i + 1, A2, k + 1, cap2, by simp, by omega, rfl, ⟨by rw [HT.out, List.length_append, ← HI.out.1]; rfl, by rw [HT.out]; exact HN1.out.1, HN1.out.2⟩⟩
        case measure => simp; omega
      · have hq := bytes_eql E.s s
        rw [decide_eq_false hs] at hq
        rw [if_neg hs, List.append_nil] at HT
        clear hs hap
        go_wp2_with fail
        go_roundw
        case rel => exact ⟨i + 1, A', k, cap, by simp, by omega, rfl, ⟨by rw [HT.out]; exact HI.out.1, by rw [HT.out]; exact HN2.out.1, HN2.out.2⟩⟩
        case measure => simp; omega
    · have hin' : i = n := by omega
      subst hin'
      have HF := HI.out
      rw [List.take_of_length_le (by rw [hlen.out]; exact Nat.le_refl _)] at HF
      obtain ⟨rfl, h2, h3⟩ := HF
      have HF := Kp.mk (And.intro h2 h3)
      clear h2 h3 HI
      go_wp2_with fail
      go_ret
      exact ⟨⟨A', cap, rfl, HF.out.1⟩, HF.out.2⟩


end Go.Proofs.YtldhnabhojfmiaaDoorR
namespace Go.Proofs.YtldhnabhojfmiaaDoorR
open Go.RowKit

theorem insK_perm (x : List UInt8 × ByteArray × Nat) : ∀ L, (insK x L).Perm (x :: L)
  | [] => List.Perm.refl _
  | y :: L => by
    unfold insK
    split
    · exact List.Perm.refl _
    · exact (List.Perm.cons y (insK_perm x L)).trans (List.Perm.swap x y L)
def SortK (L : List (List UInt8 × ByteArray × Nat)) : Prop := L.Pairwise fun a b => dLe a.1 b.1
theorem insK_sorted {x : List UInt8 × ByteArray × Nat} : ∀ {L}, SortK L → SortK (insK x L)
  | [], _ => by simp [insK, SortK]
  | y :: L, h => by
    unfold insK
    split
    · rename_i hlt
      refine List.Pairwise.cons (fun z hz => ?_) h
      rcases List.mem_cons.1 hz with rfl | hz
      · exact dLe_of_lt hlt
      · exact dLe_trans (dLe_of_lt hlt) ((List.pairwise_cons.1 h).1 z hz)
    · rename_i hlt
      obtain ⟨h1, h2⟩ := List.pairwise_cons.1 h
      refine List.Pairwise.cons (fun z hz => ?_) (insK_sorted h2)
      rcases List.mem_cons.1 ((insK_perm x L).mem_iff.1 hz) with rfl | hz
      · simpa [dLe] using hlt
      · exact h1 z hz
theorem offsK_none {D : List UInt8} {L : List (List UInt8 × ByteArray × Nat)} (h : ∀ z ∈ L, z.1 ≠ D) : offsK D L = [] := by
  unfold offsK
  rw [List.filter_eq_nil_iff.2 (fun z hz => by simp [h z hz])]
  rfl
theorem offsK_cons (D : List UInt8) (y : List UInt8 × ByteArray × Nat) (L) : offsK D (y :: L) = (if y.1 = D then [y.2.2] else []) ++ offsK D L := by
  unfold offsK
  by_cases h : y.1 = D <;> simp [h]
theorem offsK_ins (D : List UInt8) (x : List UInt8 × ByteArray × Nat) : ∀ L, SortK L → offsK D (insK x L) = offsK D L ++ if x.1 = D then [x.2.2] else []
  | [], _ => by
    unfold insK
    rw [offsK_cons]
    simp [offsK]
  | y :: L, h => by
    obtain ⟨h1, h2⟩ := List.pairwise_cons.1 h
    unfold insK
    split
    · rename_i hlt
      rw [offsK_cons D x]
      by_cases hx : x.1 = D
      · rw [if_pos hx, offsK_none (L := y :: L)]
        · rfl
        · intro z hz e
          have hle : dLe y.1 z.1 := by
            rcases List.mem_cons.1 hz with rfl | hz
            · exact dLe_refl _
            · exact h1 z hz
          have hl : dLt x.1 y.1 = false := by
            have : dLe y.1 x.1 := by rw [hx, ← e]; exact hle
            exact this
          rw [hl] at hlt
          cases hlt
      · rw [if_neg hx]; simp
    · rw [offsK_cons, offsK_cons, offsK_ins D x L h2, List.append_assoc]
theorem bl_ext {a b : ByteArray} (h : bl a = bl b) : a = b := by
  unfold bl at h
  cases a; cases b
  simp at h
  rw [h]
theorem offs_keys (s : ByteArray) (es : List Ent) : offsK (bl s) (keysOf es) = offsE s es := by
  have h : ∀ (es : List Ent) K, SortK K → offsK (bl s) (es.foldl (fun K e => insK e.key K) K) = offsK (bl s) K ++ offsE s es := fun es => by
    induction es with
    | nil => intro K _; simp [offsE]
    | cons e es ih =>
      intro K hK
      rw [List.foldl_cons, ih _ (insK_sorted hK), offsK_ins _ _ _ hK, List.append_assoc]
      congr 1
      unfold offsE
      by_cases hs : e.s = s
      · rw [if_pos (by rw [← hs]; rfl), List.filter_cons, if_pos (by simp [hs])]; rfl
      · rw [if_neg (show ¬ e.key.1 = bl s from fun hk => hs (bl_ext hk)), List.filter_cons, if_neg (by simp [hs])]; rfl
  have := h es [] List.Pairwise.nil
  rw [show keysOf es = es.foldl (fun K e => insK e.key K) [] from rfl, this]
  rfl
theorem offsE_lt {N : Nat} (s : ByteArray) (es : List Ent) (h : ∀ e ∈ es, e.off < N) : ∀ x ∈ offsE s es, x < N := by
  intro x hx
  unfold offsE at hx
  obtain ⟨e, he, rfl⟩ := List.mem_map.1 hx
  exact h e (List.mem_filter.1 he).1
theorem offsE_length (s : ByteArray) (es : List Ent) : (offsE s es).length ≤ es.length := by
  unfold offsE
  rw [List.length_map]
  exact List.length_filter_le _ _

end Go.Proofs.YtldhnabhojfmiaaDoorR
namespace Go.Proofs.YtldhnabhojfmiaaDoorR
open Go.RowKit

set_option maxHeartbeats 8000000 in
set_option maxRecDepth 100000 in
theorem iiAll_walk (A : Option Addr) (n c : Nat) (es : List Ent) (v codec code most : Nat) (s : ByteArray) (w : World) (hr : RdE w A n c es) (h64 : ∀ e ∈ es, e.off < 18446744073709551616) (hm : most < 256) (he : IiErrs w) :
    Calls Tryd.prog 3 #[.slice A n c, .agg #[.int .u64 v, .int .u64 codec, .int .u64 code, .string s], .int .u8 most] w fun e w' => e = .returned (.bool true) ∧ Below w.heap.size w w' := by
  have HF7 := Kp.mk (fun w hr => fits7_calls A n c es w hr)
  have HF1 := Kp.mk (fun w => fits1_calls v codec code s w)
  have HR := Kp.mk hr
  have HX := Kp.mk (And.intro h64 he)
  clear hr h64 he
  go_enter Tryd.func3, Tryd.ntmps3
  go_wp2_with fail
  refine (HF7.out _ (HR.out.below (bel_alloc (Below.refl _ _) _))).mono ?_
  rintro e w1 ⟨rfl, hb⟩
  have HB1 := Kp.mk (bel_new hb)
  have HK1 := Kp.mk (blk_new hb)
  clear hb HF7
  by_cases h1 : n ≤ 2147483647 ∧ ∀ x ∈ es, x.s.size ≤ 2147483647
  case neg =>
    rw [decide_eq_false h1]
    clear h1
    go_wp2_with fail
    go_ret
    exact ⟨rfl, HB1.out⟩
  rw [decide_eq_true h1]
  clear h1
  have c0 := blk_cell HK1.out 0
  have c1 := blk_cell HK1.out 1
  have c2 := blk_cell HK1.out 2
  have c3 := blk_cell HK1.out 3
  go_wp2_with fail
  clear c0 c1 c2 c3
  refine (HF1.out _).mono ?_
  rintro e w2 ⟨rfl, hb⟩
  have HB2 := Kp.mk (bel_then HB1.out hb)
  have HK2 := Kp.mk (blk_keep HK1.out hb)
  clear hb HF1 HB1 HK1
  by_cases h2 : s.size ≤ 2147483647
  case neg =>
    rw [decide_eq_false h2]
    go_wp2_with fail
    go_ret
    exact ⟨rfl, HB2.out⟩
  rw [decide_eq_true h2]
  clear h2
  have HSE := Kp.mk (fun w hr => stEntries_calls A n c es w hr)
  go_wp2_with fail
  refine (HSE.out _ (HR.out.below HB2.out)).mono ?_
  rintro e w3 ⟨rfl, hb⟩
  have HB3 := Kp.mk (bel_then HB2.out hb)
  have HK3 := Kp.mk (blk_keep HK2.out hb)
  clear hb HSE HB2 HK2
  by_cases h3 : n ≤ 60 ∧ ∀ x ∈ es, x.ok
  case neg =>
    rw [decide_eq_false h3]
    clear h3
    go_wp2_with fail
    go_ret
    exact ⟨rfl, HB3.out⟩
  rw [decide_eq_true h3]
  have HN := Kp.mk h3
  clear h3
  have c0 := blk_cell HK3.out 0
  have c1 := blk_cell HK3.out 1
  have c2 := blk_cell HK3.out 2
  have c3 := blk_cell HK3.out 3
  have HSC := Kp.mk (fun w => stCid_calls v codec code s w)
  go_wp2_with fail
  clear c0 c1 c2 c3
  refine (HSC.out _).mono ?_
  rintro e w4 ⟨rfl, hb⟩
  have HB4 := Kp.mk (bel_then HB3.out hb)
  have HK4 := Kp.mk (blk_keep HK3.out hb)
  clear hb HSC HB3 HK3
  by_cases h4 : Tidy v codec code s ∧ 0 < s.size ∧ s.size ≤ 200
  case neg =>
    rw [decide_eq_false h4]
    clear h4
    go_wp2_with fail
    go_ret
    exact ⟨rfl, HB4.out⟩
  rw [decide_eq_true h4]
  have HT := Kp.mk h4
  clear h4
  by_cases h5 : most = 0
  · subst h5
    go_wp2_with fail
    go_ret
    exact ⟨rfl, HB4.out⟩
  have h5' : (most : Int) ≠ 0 := by omega
  have HM := Kp.mk h5
  have HOD := Kp.mk (fun w hr => ofDigest_calls A n c es s w hr (by have := HN.out.1; omega))
  have c3 := blk_cell HK4.out 3
  clear h5
  go_wp2_with fail
  clear c3 h5'
  refine (HOD.out _ (HR.out.below HB4.out)).mono ?_
  rintro e w5 ⟨⟨A5, cap5, rfl, ho5⟩, hb⟩
  have HB5 := Kp.mk (bel_then HB4.out hb)
  have HK5 := Kp.mk (blk_keep HK4.out hb)
  have HIA := Kp.mk (fun w hr he => iiAll_calls A n c es v codec code most s w hr HN.out.2 (by have := HN.out.1; omega) HT.out.1 (by have := HT.out.2.2; omega) (by have := HM.out; omega) he)
  have HO5 := Kp.mk ho5
  have HXS : Kp (offsK (bl s) (keysOf es) = offsE s es) := ⟨offs_keys s es⟩
  rw [HXS.out] at HIA
  have HLX : Kp ((∀ x ∈ offsE s es, x < 18446744073709551616) ∧ (offsE s es).length ≤ 1000) := ⟨⟨offsE_lt s es HX.out.1, by have := offsE_length s es; have := HR.out.len; have := HN.out.1; omega⟩⟩
  clear hb ho5 HOD HB4 HK4
  obtain ⟨xs, hxs⟩ : ∃ xs, xs = offsE s es := ⟨_, rfl⟩
  rw [← hxs] at HO5 HIA HLX ⊢
  clear hxs HXS
  have c0 := blk_cell HK5.out 0
  have c1 := blk_cell HK5.out 1
  have c2 := blk_cell HK5.out 2
  have c3 := blk_cell HK5.out 3
  go_wp2_with fail
  clear c0 c1 c2 c3
  refine (HIA.out _ (HR.out.below HB5.out) (HX.out.2.below HB5.out)).mono ?_
  rintro e w6 ⟨⟨A6, cap6, base6, rfl, hbase, ho6⟩, hb⟩
  have HB6 := Kp.mk (bel_then HB5.out hb)
  have HK6 := Kp.mk (blk_keep HK5.out hb)
  have HO := Kp.mk (And.intro (ownsRow_below HO5.out hb) ho6)
  clear hb ho6 hbase HIA HB5 HK5 HO5
  by_cases h6 : xs = []
  · subst h6
    have c0 := blk_cell HK6.out 0
    have c1 := blk_cell HK6.out 1
    have c2 := blk_cell HK6.out 2
    have c3 := blk_cell HK6.out 3
    have d0 := fun o => blk_cell (blk_keep HK6.out (bel_alloc (Below.refl _ _) o)) 0
    have d1 := fun o => blk_cell (blk_keep HK6.out (bel_alloc (Below.refl _ _) o)) 1
    have d2 := fun o => blk_cell (blk_keep HK6.out (bel_alloc (Below.refl _ _) o)) 2
    have d3 := fun o => blk_cell (blk_keep HK6.out (bel_alloc (Below.refl _ _) o)) 3
    have HI3 := Kp.mk (fun w hr he => iiAll_calls (some ⟨w6.heap.size, 0, none⟩) 1 1 [⟨v, codec, code, s, 3⟩] v codec code 1 s w hr (fun e he => by simp at he; subst he; exact HT.out) (by omega) HT.out.1 (by have := HT.out.2.2; omega) (by omega) he)
    have hk3 : offsK (bl s) (keysOf [⟨v, codec, code, s, 3⟩]) = [3] := by rw [offs_keys]; simp [offsE]
    rw [hk3] at HI3
    clear hk3
    have HR3 : Kp (RdE (w6.alloc (.cells #[.int .u64 v, .int .u64 codec, .int .u64 code, .string s, .int .u64 3] 33)) (some ⟨w6.heap.size, 0, none⟩) 1 1 [⟨v, codec, code, s, 3⟩]) := ⟨⟨rfl, by omega, by omega, fun _ => ⟨_, _, rfl, fun i hi j hj => by
      have h0 : i = 0 := by simp at hi; exact hi
      subst h0
      rw [blk_cell (blk_new (w := w6) (Below.refl _ _))]
      match j, hj with
      | 0, _ => rfl
      | 1, _ => rfl
      | 2, _ => rfl
      | 3, _ => rfl
      | 4, _ => rfl⟩⟩⟩
    have HB7 := Kp.mk (fun o => bel_then HB6.out (bel_alloc (Below.refl w6.heap.size w6) o))
    simp only [List.length_nil, List.take_nil, if_true]
    go_wp2_with fail
    clear c0 c1 c2 c3 d0 d1 d2 d3
    refine (HI3.out _ HR3.out (HX.out.2.below (HB7.out _))).mono ?_
    rintro e w7 ⟨⟨A7, cap7, base7, rfl, -, -⟩, hb⟩
    have HB8 := Kp.mk (bel_then (HB7.out _) hb)
    clear hb HI3 HR3 HB7
    go_wp2_with fail
    go_ret
    exact ⟨rfl, HB8.out⟩
  · obtain ⟨L, hL⟩ : ∃ L, L = xs.length := ⟨_, rfl⟩
    obtain ⟨k, hk⟩ : ∃ k, k = (xs.take most).length := ⟨_, rfl⟩
    rw [← hL, ← hk, if_neg h6]
    have h7 : L ≠ 0 := by rw [hL]; exact fun h0 => h6 (List.length_eq_zero_iff.1 h0)
    have h8 : k = min L most := by rw [hk, hL, List.length_take]; omega
    have h7' : (L : Int) ≠ 0 := by omega
    have HKL := Kp.mk (And.intro hL (And.intro hk (And.intro h7 h8)))
    have hpre : xs.take most = xs.take k := by rw [h8, hL, Nat.min_comm, ← List.take_take, List.take_length]
    have HY := Kp.mk (And.intro (show RdU w6 A6 k cap6 (xs.take most) by rw [hk]; exact rdU_own HO.out.2) (show RdU w6 A5 L cap5 xs by rw [hL]; exact rdU_own HO.out.1))
    have HW := Kp.mk (fun w' hx hy => within_calls A6 A5 k cap6 L cap5 (xs.take most) xs w' hx hy hpre HLX.out.1 (by rw [hL]; exact HLX.out.2))
    clear hL hk h7 h8 h6 hpre
    go_wp2_with fail
    · refine (HW.out _ HY.out.1 HY.out.2).mono ?_
      rintro e w7 ⟨rfl, hb⟩
      have HB7 := Kp.mk (bel_then HB6.out hb)
      clear hb
      go_wp2_with fail
      go_ret
      exact ⟨rfl, HB7.out⟩
    · rename_i hne
      exact absurd (show (k : Int) = min (L : Int) (most : Int) by have := HKL.out.2.2.2; omega) hne

end Go.Proofs.YtldhnabhojfmiaaDoorR
