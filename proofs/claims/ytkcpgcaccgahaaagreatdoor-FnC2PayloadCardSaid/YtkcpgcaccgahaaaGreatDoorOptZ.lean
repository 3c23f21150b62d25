/- The walk of impl.options. Printed by gen-optmk.py. -/
import Derived.Test.YtkcpgcaccgahaaaGreatDoorOptApZ
import Derived.Test.YtkcpgcaccgahaaaGreatDoorGrowA
import Derived.Lib.AppendZerosOnto
namespace Go.Proofs.YtkcpgcaccgahaaaGreatDoor
open Go.RowKit

/-- impl.Options. -/
structure OptI where
  z : Bool
  id : Bool
  dup : Bool
  wh : Bool
  v1 : Bool
  tr : Bool
  dp : Nat
  ip : Nat
  codec : Nat
  mc : Nat
  mh : Nat
  ms : Nat
def OptI.cells (o : OptI) : Array Value := #[.bool o.z, .bool o.id, .bool o.dup, .bool o.wh, .bool o.v1, .bool o.tr, .int .u64 o.dp, .int .u64 o.ip, .int .u64 o.codec, .int .u64 o.mc, .int .u64 o.mh, .int .u64 o.ms]
/-- A row of options, of the call's own. -/
def OwnO (base : Nat) (w : World) (A : Option Addr) (cap : Nat) (E : List (Nat × Nat × Value)) : Prop := w.ownsRow base 141 1 (.slice A E.length cap) E.length (E.map fun y => optV y.1 y.2.1) ∧ OptsIn w E
theorem OwnO.below {base : Nat} {w w1 : World} {A : Option Addr} {cap : Nat} {E : List (Nat × Nat × Value)} (h : OwnO base w A cap E) (hb : Below w.heap.size w w1) : OwnO base w1 A cap E := by
  obtain ⟨⟨h1, h2⟩, hi⟩ := h
  refine ⟨⟨h1, h2.imp id ?_⟩, hi.below hb⟩
  rintro ⟨g, cap, cur, e, h3, h4, h5⟩
  exact ⟨g, cap, cur, e, h3, blk_keep h4 hb, h5⟩
theorem OwnO.rd {base : Nat} {w : World} {A : Option Addr} {cap n : Nat} {E : List (Nat × Nat × Value)} (h : OwnO base w A cap E) (hn : n = E.length) (h1 : 1 ≤ n) : RdO w A n E := by
  subst hn
  rcases h.1.2 with ⟨_, h0⟩ | ⟨g, cap', cur, he, _, hb, hle, hm, hs, ht⟩
  · omega
  · simp only [Value.slice.injEq] at he
    obtain ⟨rfl, _, rfl⟩ := he
    refine ⟨rfl, ⟨g, 0, rfl, fun i hi => ?_⟩, h.2⟩
    rw [blk_cell hb, Nat.zero_add]
    have h2 : (E.map fun y => optV y.1 y.2.1)[i]? = some (optV E[i].1 E[i].2.1) := by rw [List.getElem?_map, List.getElem?_eq_getElem hi]; rfl
    rw [← ht, List.getElem?_take, if_pos (by omega)] at h2
    simpa using h2
theorem info_opt : (Tryz.prog.info? 141).map (fun i => (i.zero, i.size, i.bytes)) = some (some .nilFunc, 1, 8) := by kernel_rfl

/-- An append of one option. -/
theorem append_opt (base k : Nat) (A : Option Addr) (cap : Nat) (E : List (Nat × Nat × Value)) (hk : k = E.length) (h1 : 1 ≤ k) (w : World) (h : OwnO base w A cap E) (hb : base ≤ w.heap.size) (hl : k ≤ 1000) (gx kk c : Nat) (x : Value) (tc : TypeId) (hx : w.cell? ⟨gx, 0, none⟩ = some (optV kk c)) (hkk : kk ∈ optKs) (hok : okO kk x) (hc : w.heap[c]? = some (.cells #[x] tc (0, 0))) :
    ∃ A' cap' w', (Builtin.append_ #[106, 106] 106 #[.slice A k cap, .slice (some ⟨gx, 0, none⟩) 1 1]).run Tryz.prog w = .ok (.slice A' (k + 1) cap') w'
      ∧ OwnO base w' A' cap' (E ++ [(kk, c, x)]) ∧ Ex (fun j => base ≤ j) w w' := by
  obtain ⟨i, hi, hz, hs, hby⟩ := info_parts info_opt
  have hown : w.ownsRow base 141 1 (.slice A k cap) k (E.map fun y => optV y.1 y.2.1) := by rw [hk]; exact h.1
  obtain ⟨v', w', hr, ho, hg, _⟩ := run_append_own (P := Tryz.prog) w base 106 106 141 i _ 1 8 Tryz.underlying106 hi hz hs hby rfl (by omega) _ k _ hown ⟨gx, 0, none⟩ 1 1 [optV kk c] rfl
    (fun j u hj => by
      match j, hj with
      | 0, hj => simp at hj; subst hj; rw [add_plain]; exact hx) (fun u hu => by simp at hu; subst hu; rfl) (by unfold maxLen; omega) (by omega) hb
  have hv : ∃ A' cap', v' = .slice A' (k + 1) cap' := by
    rcases ho.2 with ⟨_, h0⟩ | ⟨g, cap, cur, rfl, _⟩
    · omega
    · exact ⟨_, _, rfl⟩
  obtain ⟨A', cap', rfl⟩ := hv
  have hnew : OptsIn w (E ++ [(kk, c, x)]) := fun y hy => by
    rcases List.mem_append.1 hy with hy | hy
    · exact h.2 y hy
    · obtain rfl := List.mem_singleton.1 hy
      exact ⟨hkk, hok, tc, hc⟩
  refine ⟨A', cap', w', hr, ⟨by rw [List.length_append, ← hk, List.map_append]; exact ho, fun y hy => ?_⟩, hg.os, hg.tape, hg.output, hg.size, fun j hj hp => hg.block j hj fun e => ?_⟩
  · obtain ⟨q1, q2, t, q3⟩ := hnew y hy
    refine ⟨q1, q2, t, ?_⟩
    rw [hg.block y.2.1 (Array.getElem?_eq_some_iff.1 q3).1 (fun e => ?_)]
    · exact q3
    · rcases h.1.2 with ⟨h0, _⟩ | ⟨g, cap2, cur, h0, _, hbk, hle, hm, hsz, ht⟩
      · simp only [Value.slice.injEq] at h0
        rw [h0.1] at e; cases e
      · simp only [Value.slice.injEq] at h0
        rw [h0.1] at e
        simp [Value.ownBlock] at e
        rw [e] at q3
        rw [q3] at hbk
        have hcur : cur = #[y.2.2] := (show cur = #[y.2.2] ∧ 141 = t by simpa using hbk.symm).1
        rw [hcur] at ht
        have h0 := congrArg (fun l => l[0]?) ht
        have hp0 : 0 < E.length := by omega
        have hx1 : y.2.2 = optV E[0].1 E[0].2.1 := by simpa [hp0] using h0
        unfold okO at q2
        rw [hx1] at q2
        split at q2
        · obtain ⟨b, e⟩ := q2; cases e
        · obtain ⟨z, e⟩ := q2; cases e
  · rcases h.1.2 with ⟨h0, _⟩ | ⟨g, cap2, cur, h0, hg0, _⟩
    · simp only [Value.slice.injEq] at h0
      rw [h0.1] at e; cases e
    · simp only [Value.slice.injEq] at h0
      rw [h0.1] at e
      simp [Value.ownBlock] at e
      exact hp (by omega)

theorem okO_b {k : Nat} (h : k = 3 ∨ k = 5 ∨ k = 6 ∨ k = 7 ∨ k = 9 ∨ k = 10) (b : Bool) : okO k (.bool b) := by
  unfold okO; rw [if_pos h]; exact ⟨b, rfl⟩
theorem okO_u {k : Nat} (h : ¬ (k = 3 ∨ k = 5 ∨ k = 6 ∨ k = 7 ∨ k = 9 ∨ k = 10)) (z : Nat) : okO k (.int .u64 z) := by
  unfold okO; rw [if_neg h]; exact ⟨z, rfl⟩
/-- What impl.options leaves. -/
def OptsZ (e : Ending) (w' : World) : Prop := ∃ A c E, e = .returned (.slice A 8 c) ∧ RdO w' A 8 E ∧ E.map (·.1) = [3, 5, 6, 7, 9, 10, 0, 1]
theorem optsZ_of {base n c : Nat} {w' : World} {A : Option Addr} {E : List (Nat × Nat × Value)} (h : OwnO base w' A c E) (hg : E.map (·.1) = [3, 5, 6, 7, 9, 10, 0, 1]) (hn : n = 8) (hn2 : 8 = E.length) : OptsZ (.returned (.slice A n c)) w' := by subst hn; exact ⟨A, c, E, rfl, h.rd hn2 (by omega), hg⟩

/-- A made option. -/
def cloO (k : Nat) (x u : Value) (w : World) : Prop := ∃ c t, u = optV k c ∧ w.heap[c]? = some (.cells #[x] t (0, 0))
/-- What the operations of its first line leave. -/
def omR (b : Nat) (o : OptI) (j : Nat) (u : Value) (w : World) : Prop :=
  match j with
  | 0 => u = .pointer (some ⟨b, 0, none⟩)
  | 1 => u = (.bool o.z)
  | 2 => cloO 3 (.bool o.z) u w
  | 3 => u = .pointer (some ⟨b, 1, none⟩)
  | 4 => u = (.bool o.id)
  | 5 => cloO 5 (.bool o.id) u w
  | 6 => u = .pointer (some ⟨b, 2, none⟩)
  | 7 => u = (.bool o.dup)
  | 8 => cloO 6 (.bool o.dup) u w
  | 9 => u = .pointer (some ⟨b, 3, none⟩)
  | 10 => u = (.bool o.wh)
  | 11 => cloO 7 (.bool o.wh) u w
  | 12 => u = .pointer (some ⟨b, 4, none⟩)
  | 13 => u = (.bool o.v1)
  | 14 => cloO 9 (.bool o.v1) u w
  | 15 => u = .pointer (some ⟨b, 5, none⟩)
  | 16 => u = (.bool o.tr)
  | 17 => cloO 10 (.bool o.tr) u w
  | 18 => u = .pointer (some ⟨b, 6, none⟩)
  | 19 => u = (.int .u64 o.dp)
  | 20 => cloO 0 (.int .u64 o.dp) u w
  | 21 => u = .pointer (some ⟨b, 7, none⟩)
  | 22 => u = (.int .u64 o.ip)
  | 23 => cloO 1 (.int .u64 o.ip) u w
  | _ => ∃ g c0 c1 c2 c3 c4 c5 c6 c7, b < g ∧ u = .slice (some ⟨g, 0, none⟩) 8 8 ∧ w.heap[g]? = some (.cells #[optV 3 c0, optV 5 c1, optV 6 c2, optV 7 c3, optV 9 c4, optV 10 c5, optV 0 c6, optV 1 c7] 141 (0, 0)) ∧ OptsIn w [(3, c0, (.bool o.z)), (5, c1, (.bool o.id)), (6, c2, (.bool o.dup)), (7, c3, (.bool o.wh)), (9, c4, (.bool o.v1)), (10, c5, (.bool o.tr)), (0, c6, (.int .u64 o.dp)), (1, c7, (.int .u64 o.ip))]
theorem omR_keep {b : Nat} {o : OptI} (i : Nat) (u : Value) (a c : World) (h : omR b o i u a) (hb : Below a.heap.size a c) : omR b o i u c := by
  rcases i with _ | _ | _ | _ | _ | _ | _ | _ | _ | _ | _ | _ | _ | _ | _ | _ | _ | _ | _ | _ | _ | _ | _ | _ | i
  · exact h
  · exact h
  · obtain ⟨c, t, e, h1⟩ := h; exact ⟨c, t, e, blk_keep h1 hb⟩
  · exact h
  · exact h
  · obtain ⟨c, t, e, h1⟩ := h; exact ⟨c, t, e, blk_keep h1 hb⟩
  · exact h
  · exact h
  · obtain ⟨c, t, e, h1⟩ := h; exact ⟨c, t, e, blk_keep h1 hb⟩
  · exact h
  · exact h
  · obtain ⟨c, t, e, h1⟩ := h; exact ⟨c, t, e, blk_keep h1 hb⟩
  · exact h
  · exact h
  · obtain ⟨c, t, e, h1⟩ := h; exact ⟨c, t, e, blk_keep h1 hb⟩
  · exact h
  · exact h
  · obtain ⟨c, t, e, h1⟩ := h; exact ⟨c, t, e, blk_keep h1 hb⟩
  · exact h
  · exact h
  · obtain ⟨c, t, e, h1⟩ := h; exact ⟨c, t, e, blk_keep h1 hb⟩
  · exact h
  · exact h
  · obtain ⟨c, t, e, h1⟩ := h; exact ⟨c, t, e, blk_keep h1 hb⟩
  · obtain ⟨g, c0, c1, c2, c3, c4, c5, c6, c7, hg, e, h1, h2⟩ := h
    exact ⟨g, c0, c1, c2, c3, c4, c5, c6, c7, hg, e, blk_keep h1 hb, h2.below hb⟩

set_option maxHeartbeats 16000000 in
set_option maxRecDepth 100000 in
/-- impl.options. -/
theorem optionsZ_calls (o : OptI) (hz0 : o.codec = 0) (hz1 : o.mc = 0) (hz2 : o.mh = 0) (hz3 : o.ms = 0) (w : World) :
    Calls Tryz.prog 42 #[.agg o.cells] w fun e w' => OptsZ e w' ∧ Below w.heap.size w w' := by
  show Calls Tryz.prog 42 #[.agg #[.bool o.z, .bool o.id, .bool o.dup, .bool o.wh, .bool o.v1, .bool o.tr, .int .u64 o.dp, .int .u64 o.ip, .int .u64 o.codec, .int .u64 o.mc, .int .u64 o.mh, .int .u64 o.ms]] w _
  have HZ := Kp.mk (And.intro hz0 (And.intro hz1 (And.intro hz2 hz3)))
  clear hz0 hz1 hz2 hz3
  have HB0 := Kp.mk (fun o => bel_alloc (Below.refl w.heap.size w) o)
  have HN0 := Kp.mk (fun o => blk_new (w := w) (o := o) (Below.refl _ _))
  go_enter Tryz.func42, Tryz.ntmps42
  go_wp2_with fail
  have HB1 := Kp.mk (HB0.out (.cells #[.bool o.z, .bool o.id, .bool o.dup, .bool o.wh, .bool o.v1, .bool o.tr, .int .u64 o.dp, .int .u64 o.ip, .int .u64 o.codec, .int .u64 o.mc, .int .u64 o.mh, .int .u64 o.ms] 30))
  have HN1 := Kp.mk (HN0.out (.cells #[.bool o.z, .bool o.id, .bool o.dup, .bool o.wh, .bool o.v1, .bool o.tr, .int .u64 o.dp, .int .u64 o.ip, .int .u64 o.codec, .int .u64 o.mc, .int .u64 o.mh, .int .u64 o.ms] 30))
  clear HB0 HN0
  obtain ⟨b, hb⟩ : ∃ b, b = w.heap.size := ⟨_, rfl⟩
  have hsz : w.heap.size ≤ b := by omega
  rw [← hb] at HN1 ⊢
  generalize w.alloc (.cells #[.bool o.z, .bool o.id, .bool o.dup, .bool o.wh, .bool o.v1, .bool o.tr, .int .u64 o.dp, .int .u64 o.ip, .int .u64 o.codec, .int .u64 o.mc, .int .u64 o.mh, .int .u64 o.ms] 30) = w1 at *
  have HSZ := Kp.mk hb
  clear hb hsz
  refine wp_region_growR (fun u u' => Below u.heap.size u u') (fun _ => Below.refl _ _) (fun _ _ _ h k => bel_then h k) (by kernel_rfl) 26 (by decide) (apart_of (by kernel_rfl)) (by kernel_rfl) (omR b o) (fun _ _ _ _ => True) omR_keep ?_ ?_
  · intro j hj ob ho vs w5 hb5 hpre
    have HN5 := Kp.mk (blk_keep HN1.out (bel_then (bel_drew (Below.refl w1.heap.size w1)) hb5))
    have HB5 := Kp.mk (fun o => bel_alloc (Below.refl w5.heap.size w5) o)
    have HA5 := Kp.mk (fun o => blk_new (w := w5) (o := o) (Below.refl _ _))
    have HLT : Kp (b < w5.heap.size) := ⟨(Array.getElem?_eq_some_iff.1 HN5.out).1⟩
    clear hb5
    rcases j with _ | _ | _ | _ | _ | _ | _ | _ | _ | _ | _ | _ | _ | _ | _ | _ | _ | _ | _ | _ | _ | _ | _ | _ | _ | _ | j
    · obtain rfl := Option.some.inj ho
      simp only [canon, List.range, List.range.loop, List.foldl]
      go_simp
      exact ⟨rfl, Below.refl _ _⟩
    · have e0 : vs 0 = _ := hpre 0 (by decide) (by obtain rfl := Option.some.inj ho; rfl)
      have c0 := blk_cell HN5.out 0
      obtain rfl := Option.some.inj ho
      simp only [canon, List.range, List.range.loop, List.foldl]
      go_simp
      exact ⟨rfl, Below.refl _ _⟩
    · have e1 : vs 1 = _ := hpre 1 (by decide) (by obtain rfl := Option.some.inj ho; rfl)
      obtain rfl := Option.some.inj ho
      simp only [canon, List.range, List.range.loop, List.foldl]
      go_simp
      refine (optMk3_calls o.z w5).mono ?_
      rintro e6 w6 ⟨c, t, rfl, hc, hb⟩
      exact ⟨⟨c, t, rfl, hc⟩, hb⟩
    · obtain rfl := Option.some.inj ho
      simp only [canon, List.range, List.range.loop, List.foldl]
      go_simp
      exact ⟨rfl, Below.refl _ _⟩
    · have e0 : vs 3 = _ := hpre 3 (by decide) (by obtain rfl := Option.some.inj ho; rfl)
      have c0 := blk_cell HN5.out 1
      obtain rfl := Option.some.inj ho
      simp only [canon, List.range, List.range.loop, List.foldl]
      go_simp
      exact ⟨rfl, Below.refl _ _⟩
    · have e1 : vs 4 = _ := hpre 4 (by decide) (by obtain rfl := Option.some.inj ho; rfl)
      obtain rfl := Option.some.inj ho
      simp only [canon, List.range, List.range.loop, List.foldl]
      go_simp
      refine (optMk5_calls o.id w5).mono ?_
      rintro e6 w6 ⟨c, t, rfl, hc, hb⟩
      exact ⟨⟨c, t, rfl, hc⟩, hb⟩
    · obtain rfl := Option.some.inj ho
      simp only [canon, List.range, List.range.loop, List.foldl]
      go_simp
      exact ⟨rfl, Below.refl _ _⟩
    · have e0 : vs 6 = _ := hpre 6 (by decide) (by obtain rfl := Option.some.inj ho; rfl)
      have c0 := blk_cell HN5.out 2
      obtain rfl := Option.some.inj ho
      simp only [canon, List.range, List.range.loop, List.foldl]
      go_simp
      exact ⟨rfl, Below.refl _ _⟩
    · have e1 : vs 7 = _ := hpre 7 (by decide) (by obtain rfl := Option.some.inj ho; rfl)
      obtain rfl := Option.some.inj ho
      simp only [canon, List.range, List.range.loop, List.foldl]
      go_simp
      refine (optMk6_calls o.dup w5).mono ?_
      rintro e6 w6 ⟨c, t, rfl, hc, hb⟩
      exact ⟨⟨c, t, rfl, hc⟩, hb⟩
    · obtain rfl := Option.some.inj ho
      simp only [canon, List.range, List.range.loop, List.foldl]
      go_simp
      exact ⟨rfl, Below.refl _ _⟩
    · have e0 : vs 9 = _ := hpre 9 (by decide) (by obtain rfl := Option.some.inj ho; rfl)
      have c0 := blk_cell HN5.out 3
      obtain rfl := Option.some.inj ho
      simp only [canon, List.range, List.range.loop, List.foldl]
      go_simp
      exact ⟨rfl, Below.refl _ _⟩
    · have e1 : vs 10 = _ := hpre 10 (by decide) (by obtain rfl := Option.some.inj ho; rfl)
      obtain rfl := Option.some.inj ho
      simp only [canon, List.range, List.range.loop, List.foldl]
      go_simp
      refine (optMk7_calls o.wh w5).mono ?_
      rintro e6 w6 ⟨c, t, rfl, hc, hb⟩
      exact ⟨⟨c, t, rfl, hc⟩, hb⟩
    · obtain rfl := Option.some.inj ho
      simp only [canon, List.range, List.range.loop, List.foldl]
      go_simp
      exact ⟨rfl, Below.refl _ _⟩
    · have e0 : vs 12 = _ := hpre 12 (by decide) (by obtain rfl := Option.some.inj ho; rfl)
      have c0 := blk_cell HN5.out 4
      obtain rfl := Option.some.inj ho
      simp only [canon, List.range, List.range.loop, List.foldl]
      go_simp
      exact ⟨rfl, Below.refl _ _⟩
    · have e1 : vs 13 = _ := hpre 13 (by decide) (by obtain rfl := Option.some.inj ho; rfl)
      obtain rfl := Option.some.inj ho
      simp only [canon, List.range, List.range.loop, List.foldl]
      go_simp
      refine (optMk9_calls o.v1 w5).mono ?_
      rintro e6 w6 ⟨c, t, rfl, hc, hb⟩
      exact ⟨⟨c, t, rfl, hc⟩, hb⟩
    · obtain rfl := Option.some.inj ho
      simp only [canon, List.range, List.range.loop, List.foldl]
      go_simp
      exact ⟨rfl, Below.refl _ _⟩
    · have e0 : vs 15 = _ := hpre 15 (by decide) (by obtain rfl := Option.some.inj ho; rfl)
      have c0 := blk_cell HN5.out 5
      obtain rfl := Option.some.inj ho
      simp only [canon, List.range, List.range.loop, List.foldl]
      go_simp
      exact ⟨rfl, Below.refl _ _⟩
    · have e1 : vs 16 = _ := hpre 16 (by decide) (by obtain rfl := Option.some.inj ho; rfl)
      obtain rfl := Option.some.inj ho
      simp only [canon, List.range, List.range.loop, List.foldl]
      go_simp
      refine (optMk10_calls o.tr w5).mono ?_
      rintro e6 w6 ⟨c, t, rfl, hc, hb⟩
      exact ⟨⟨c, t, rfl, hc⟩, hb⟩
    · obtain rfl := Option.some.inj ho
      simp only [canon, List.range, List.range.loop, List.foldl]
      go_simp
      exact ⟨rfl, Below.refl _ _⟩
    · have e0 : vs 18 = _ := hpre 18 (by decide) (by obtain rfl := Option.some.inj ho; rfl)
      have c0 := blk_cell HN5.out 6
      obtain rfl := Option.some.inj ho
      simp only [canon, List.range, List.range.loop, List.foldl]
      go_simp
      exact ⟨rfl, Below.refl _ _⟩
    · have e1 : vs 19 = _ := hpre 19 (by decide) (by obtain rfl := Option.some.inj ho; rfl)
      obtain rfl := Option.some.inj ho
      simp only [canon, List.range, List.range.loop, List.foldl]
      go_simp
      refine (optMk0_calls o.dp w5).mono ?_
      rintro e6 w6 ⟨c, t, rfl, hc, hb⟩
      exact ⟨⟨c, t, rfl, hc⟩, hb⟩
    · obtain rfl := Option.some.inj ho
      simp only [canon, List.range, List.range.loop, List.foldl]
      go_simp
      exact ⟨rfl, Below.refl _ _⟩
    · have e0 : vs 21 = _ := hpre 21 (by decide) (by obtain rfl := Option.some.inj ho; rfl)
      have c0 := blk_cell HN5.out 7
      obtain rfl := Option.some.inj ho
      simp only [canon, List.range, List.range.loop, List.foldl]
      go_simp
      exact ⟨rfl, Below.refl _ _⟩
    · have e1 : vs 22 = _ := hpre 22 (by decide) (by obtain rfl := Option.some.inj ho; rfl)
      obtain rfl := Option.some.inj ho
      simp only [canon, List.range, List.range.loop, List.foldl]
      go_simp
      refine (optMk1_calls o.ip w5).mono ?_
      rintro e6 w6 ⟨c, t, rfl, hc, hb⟩
      exact ⟨⟨c, t, rfl, hc⟩, hb⟩
    · obtain ⟨c0, t0, e0, h0⟩ : cloO 3 (.bool o.z) (vs 2) w5 := hpre 2 (by decide) (by obtain rfl := Option.some.inj ho; rfl)
      obtain ⟨c1, t1, e1, h1⟩ : cloO 5 (.bool o.id) (vs 5) w5 := hpre 5 (by decide) (by obtain rfl := Option.some.inj ho; rfl)
      obtain ⟨c2, t2, e2, h2⟩ : cloO 6 (.bool o.dup) (vs 8) w5 := hpre 8 (by decide) (by obtain rfl := Option.some.inj ho; rfl)
      obtain ⟨c3, t3, e3, h3⟩ : cloO 7 (.bool o.wh) (vs 11) w5 := hpre 11 (by decide) (by obtain rfl := Option.some.inj ho; rfl)
      obtain ⟨c4, t4, e4, h4⟩ : cloO 9 (.bool o.v1) (vs 14) w5 := hpre 14 (by decide) (by obtain rfl := Option.some.inj ho; rfl)
      obtain ⟨c5, t5, e5, h5⟩ : cloO 10 (.bool o.tr) (vs 17) w5 := hpre 17 (by decide) (by obtain rfl := Option.some.inj ho; rfl)
      obtain ⟨c6, t6, e6, h6⟩ : cloO 0 (.int .u64 o.dp) (vs 20) w5 := hpre 20 (by decide) (by obtain rfl := Option.some.inj ho; rfl)
      obtain ⟨c7, t7, e7, h7⟩ : cloO 1 (.int .u64 o.ip) (vs 23) w5 := hpre 23 (by decide) (by obtain rfl := Option.some.inj ho; rfl)
      have h0' := blk_keep h0 (HB5.out (.cells #[optV 3 c0, optV 5 c1, optV 6 c2, optV 7 c3, optV 9 c4, optV 10 c5, optV 0 c6, optV 1 c7] 141))
      have h1' := blk_keep h1 (HB5.out (.cells #[optV 3 c0, optV 5 c1, optV 6 c2, optV 7 c3, optV 9 c4, optV 10 c5, optV 0 c6, optV 1 c7] 141))
      have h2' := blk_keep h2 (HB5.out (.cells #[optV 3 c0, optV 5 c1, optV 6 c2, optV 7 c3, optV 9 c4, optV 10 c5, optV 0 c6, optV 1 c7] 141))
      have h3' := blk_keep h3 (HB5.out (.cells #[optV 3 c0, optV 5 c1, optV 6 c2, optV 7 c3, optV 9 c4, optV 10 c5, optV 0 c6, optV 1 c7] 141))
      have h4' := blk_keep h4 (HB5.out (.cells #[optV 3 c0, optV 5 c1, optV 6 c2, optV 7 c3, optV 9 c4, optV 10 c5, optV 0 c6, optV 1 c7] 141))
      have h5' := blk_keep h5 (HB5.out (.cells #[optV 3 c0, optV 5 c1, optV 6 c2, optV 7 c3, optV 9 c4, optV 10 c5, optV 0 c6, optV 1 c7] 141))
      have h6' := blk_keep h6 (HB5.out (.cells #[optV 3 c0, optV 5 c1, optV 6 c2, optV 7 c3, optV 9 c4, optV 10 c5, optV 0 c6, optV 1 c7] 141))
      have h7' := blk_keep h7 (HB5.out (.cells #[optV 3 c0, optV 5 c1, optV 6 c2, optV 7 c3, optV 9 c4, optV 10 c5, optV 0 c6, optV 1 c7] 141))
      have HH : Kp (OptsIn (w5.alloc (.cells #[optV 3 c0, optV 5 c1, optV 6 c2, optV 7 c3, optV 9 c4, optV 10 c5, optV 0 c6, optV 1 c7] 141)) [(3, c0, (.bool o.z)), (5, c1, (.bool o.id)), (6, c2, (.bool o.dup)), (7, c3, (.bool o.wh)), (9, c4, (.bool o.v1)), (10, c5, (.bool o.tr)), (0, c6, (.int .u64 o.dp)), (1, c7, (.int .u64 o.ip))]) := ⟨fun y hy => by
        simp only [List.mem_cons, List.not_mem_nil, or_false] at hy
        rcases hy with rfl | rfl | rfl | rfl | rfl | rfl | rfl | rfl
        · exact ⟨by simp [optKs], (show okO 3 (.bool o.z) from okO_b (by decide) _), t0, h0'⟩
        · exact ⟨by simp [optKs], (show okO 5 (.bool o.id) from okO_b (by decide) _), t1, h1'⟩
        · exact ⟨by simp [optKs], (show okO 6 (.bool o.dup) from okO_b (by decide) _), t2, h2'⟩
        · exact ⟨by simp [optKs], (show okO 7 (.bool o.wh) from okO_b (by decide) _), t3, h3'⟩
        · exact ⟨by simp [optKs], (show okO 9 (.bool o.v1) from okO_b (by decide) _), t4, h4'⟩
        · exact ⟨by simp [optKs], (show okO 10 (.bool o.tr) from okO_b (by decide) _), t5, h5'⟩
        · exact ⟨by simp [optKs], (show okO 0 (.int .u64 o.dp) from okO_u (by decide) _), t6, h6'⟩
        · exact ⟨by simp [optKs], (show okO 1 (.int .u64 o.ip) from okO_u (by decide) _), t7, h7'⟩⟩
      clear h0 h0' h1 h1' h2 h2' h3 h3' h4 h4' h5 h5' h6 h6' h7 h7'
      simp only [optV] at e0 e1 e2 e3 e4 e5 e6 e7 HH ⊢
      obtain rfl := Option.some.inj ho
      simp only [canon, List.range, List.range.loop, List.foldl]
      go_simp
      exact ⟨⟨_, c0, c1, c2, c3, c4, c5, c6, c7, HLT.out, rfl, HA5.out _, HH.out⟩, HB5.out _⟩
    · obtain ⟨g, c0, c1, c2, c3, c4, c5, c6, c7, hgb, e24, h1, h2⟩ : omR b o 24 (vs 24) w5 := hpre 24 (by decide) (by obtain rfl := Option.some.inj ho; rfl)
      have HH := Kp.mk (And.intro h1 h2)
      clear h1 h2
      obtain rfl := Option.some.inj ho
      simp only [canon, List.range, List.range.loop, List.foldl]
      go_simp
      exact ⟨⟨g, c0, c1, c2, c3, c4, c5, c6, c7, hgb, rfl, HH.out⟩, Below.refl _ _⟩
    · omega
  · intro vs w5 hb5 hr _
    obtain ⟨g, c0, c1, c2, c3, c4, c5, c6, c7, hgb, e25, h1, h2⟩ : omR b o 25 (vs 25) w5 := hr 25 (by omega)
    have e24 : vs 24 = vs 24 := rfl
    have hb05 := bel_then HB1.out (bel_then (bel_drew (Below.refl w1.heap.size w1)) hb5)
    have HN5 := Kp.mk (blk_keep HN1.out (bel_then (bel_drew (Below.refl w1.heap.size w1)) hb5))
    have HB5 := Kp.mk hb05
    have hgb : b + 1 ≤ g := hgb
    obtain ⟨E, hE⟩ : ∃ E : List (Nat × Nat × Value), E = [(3, c0, (.bool o.z)), (5, c1, (.bool o.id)), (6, c2, (.bool o.dup)), (7, c3, (.bool o.wh)), (9, c4, (.bool o.v1)), (10, c5, (.bool o.tr)), (0, c6, (.int .u64 o.dp)), (1, c7, (.int .u64 o.ip))] := ⟨_, rfl⟩
    have HO : Kp (OwnO (b + 1) w5 (some ⟨g, 0, none⟩) 8 E) := ⟨by rw [hE]; exact ⟨⟨rfl, .inr ⟨g, 8, _, rfl, hgb, h1, (show 8 ≤ 8 by decide), by decide, rfl, rfl⟩⟩, h2⟩⟩
    have HG : Kp (E.map (·.1) = [3, 5, 6, 7, 9, 10, 0, 1] ∧ 8 = E.length) := ⟨by rw [hE]; exact ⟨rfl, rfl⟩⟩
    have HB := Kp.mk hb05
    have HN := HN5
    obtain ⟨A, hA⟩ : ∃ A : Option Addr, A = some ⟨g, 0, none⟩ := ⟨_, rfl⟩
    rw [← hA] at HO e25
    obtain ⟨cap, hcap⟩ : ∃ cap, cap = 8 := ⟨_, rfl⟩
    have e25' : vs 25 = .slice A 8 cap := by rw [hcap]; exact e25
    rw [← hcap] at HO
    refine wpAny_none (by kernel_rfl) ?_ _
    simp only [canon, List.range, List.range.loop, List.foldl]
    rw [e25']
    clear h1 h2 hr hb5 hb05 hgb hE hA hcap e25 e25' HN5 HB5 HB1 HN1
    have d0 := blk_cell HN.out 8
    have z0 : (o.codec : Int) = 0 := by have := HZ.out; omega
    have d1 := blk_cell HN.out 9
    have z1 : (o.mc : Int) = 0 := by have := HZ.out; omega
    have d2 := blk_cell HN.out 10
    have z2 : (o.mh : Int) = 0 := by have := HZ.out; omega
    have d3 := blk_cell HN.out 11
    have z3 : (o.ms : Int) = 0 := by have := HZ.out; omega
    go_wp2_with fail
    go_ret
    exact ⟨optsZ_of HO.out HG.out.1 rfl HG.out.2, HB.out⟩

end Go.Proofs.YtkcpgcaccgahaaaGreatDoor
