/- Some texts in one: StBytes, CidRow, Holds, IsId. -/
import Derived.Test.YtgjocdnpephcgaaGreatDoorSpecMb
import Derived.Test.YtgjocdnpephcgaaGreatDoorGrowA
import Derived.Test.YtgjocdnpephcgaaGreatDoorOptA
import Derived.Test.YtgjocdnpephcgaaGreatDoorIiA
import Derived.Test.YtgjocdnpephcgaaGreatDoorEntArg
import Derived.Test.YtgjocdnpephcgaaGreatDoorGetA
import Derived.Test.YtgjocdnpephcgaaGreatDoorHasA
namespace Go.Proofs.YtgjocdnpephcgaaGreatDoor
open Go.RowKit

def scR (b codec code : Nat) (s A1 A2 A3 S1 S2 : ByteArray) (i : Nat) (v : Value) (w : World) : Prop :=
  match i with
  | 0 => ∃ g c, v = .slice (some ⟨g, 0, none⟩) (Lib.uvarint 1).length c ∧ RdB w (some ⟨g, 0, none⟩) (Lib.uvarint 1).length c (Lib.uvarint 1)
  | 1 => v = .string A1
  | 2 => v = .pointer (some ⟨b, 1, none⟩)
  | 3 => v = .int .u64 codec
  | 4 => ∃ g c, v = .slice (some ⟨g, 0, none⟩) (Lib.uvarint codec).length c ∧ RdB w (some ⟨g, 0, none⟩) (Lib.uvarint codec).length c (Lib.uvarint codec)
  | 5 => v = .string A2
  | 6 => v = .string S1
  | 7 => v = .pointer (some ⟨b, 2, none⟩)
  | 8 => v = .int .u64 code
  | 9 => v = .pointer (some ⟨b, 3, none⟩)
  | 10 => v = .string s
  | 11 => v = .string A3
  | _ => v = .string S2
theorem scR_keep (b codec code : Nat) (s A1 A2 A3 S1 S2 : ByteArray) (i : Nat) (v : Value) (w w' : World) (h : scR b codec code s A1 A2 A3 S1 S2 i v w) (hb : Below w.heap.size w w') : scR b codec code s A1 A2 A3 S1 S2 i v w' := by
  unfold scR at *
  split at h <;> first | exact h | (obtain ⟨g, c, e, hh⟩ := h; exact ⟨g, c, e, hh.below hb⟩)
theorem strB_size_add (a b : ByteArray) : (a ++ b).size = a.size + b.size := by
  exact ByteArray.size_append

set_option maxHeartbeats 8000000 in
set_option maxRecDepth 100000 in
/-- spec.CidBytes. -/
theorem specCb_calls (v codec code : Nat) (s : ByteArray) (w : World) (hc1 : codec < 2 ^ 64) (hc2 : code < 2 ^ 64) (hs : s.size ≤ 1073741824) :
    Calls Tryz.prog 14 #[.agg #[.int .u64 v, .int .u64 codec, .int .u64 code, .string s]] w fun e w' => (∃ S, e = .returned (.string S)) ∧ Below w.heap.size w w' := by
  have HM := Kp.mk (fun w => specMb_calls code s w hc2 (by omega))
  have HV1 := Kp.mk (fun w => specVarint_calls 1 w (by omega))
  have HV2 := Kp.mk (fun w => specVarint_calls codec w hc1)
  have hl1 := Lib.uvarint_length64 (x := 1) (by omega)
  have hl2 := Lib.uvarint_length64 (x := codec) (by omega)
  have hl3 := Lib.uvarint_length64 (x := code) (by omega)
  have hl4 := Lib.uvarint_length64 (x := (bl s).length) (by rw [bl_length]; omega)
  have hmb : (mhBytes code (bl s)).length ≤ 1073742000 := by simp only [mhBytes, List.length_append]; rw [bl_length] at *; omega
  have hq1 : (strB (Lib.uvarint 1)).size + (strB (Lib.uvarint codec)).size ≤ 9223372036854775807 := by rw [strB_size, strB_size]; omega
  have hq2 : (strB (Lib.uvarint 1) ++ strB (Lib.uvarint codec)).size + (strB (mhBytes code (bl s))).size ≤ 9223372036854775807 := by rw [strB_size_add, strB_size, strB_size, strB_size]; omega
  obtain ⟨A1, hA1⟩ : ∃ A, A = strB (Lib.uvarint 1) := ⟨_, rfl⟩
  obtain ⟨A2, hA2⟩ : ∃ A, A = strB (Lib.uvarint codec) := ⟨_, rfl⟩
  obtain ⟨A3, hA3⟩ : ∃ A, A = strB (mhBytes code (bl s)) := ⟨_, rfl⟩
  rw [← hA3] at HM
  rw [← hA1, ← hA2] at hq1 hq2
  rw [← hA3] at hq2
  obtain ⟨S1, hS1⟩ : ∃ S, S = A1 ++ A2 := ⟨_, rfl⟩
  obtain ⟨S2, hS2⟩ : ∃ S, S = S1 ++ A3 := ⟨_, rfl⟩
  rw [← hS1] at hq2
  have HQ1 := Kp.mk (And.intro hq1 hS1)
  have HQ2 := Kp.mk (And.intro hq2 hS2)
  have HA1 := Kp.mk hA1
  have HA2 := Kp.mk hA2
  have HB0 := Kp.mk (fun o => bel_alloc (Below.refl w.heap.size w) o)
  have HN0 := Kp.mk (fun o => blk_new (w := w) (o := o) (Below.refl _ _))
  clear hl1 hl2 hl3 hl4 hmb hq1 hq2 hc1 hc2 hs hA1 hA2 hA3 hS1 hS2
  go_enter Tryz.func14, Tryz.ntmps14
  by_cases h0 : v = 0
  · have z0 : (v : Int) = 0 := by omega
    go_wp2_with fail
    refine (HM.out _).mono ?_
    rintro e w1 ⟨rfl, hb⟩
    have HB := Kp.mk (bel_then (HB0.out _) hb)
    clear hb HM HB0 HN0
    go_wp2_with fail
    go_ret
    exact ⟨⟨_, rfl⟩, HB.out⟩
  · have z0 : (v : Int) ≠ 0 := by omega
    go_wp2_with fail
    have HB1 := Kp.mk (HB0.out (.cells #[.int .u64 v, .int .u64 codec, .int .u64 code, .string s] 25))
    have HN1 := Kp.mk (HN0.out (.cells #[.int .u64 v, .int .u64 codec, .int .u64 code, .string s] 25))
    clear HB0 HN0
    generalize w.alloc (.cells #[.int .u64 v, .int .u64 codec, .int .u64 code, .string s] 25) = w1 at *
    obtain ⟨b, hb⟩ : ∃ b, b = w.heap.size := ⟨_, rfl⟩
    rw [← hb] at HN1 ⊢
    clear hb
    refine wp_region_growR (fun u u' => Below u.heap.size u u') (fun _ => Below.refl _ _) (fun _ _ _ h k => bel_then h k) (by kernel_rfl) 14 (by decide) (apart_of (by kernel_rfl)) (by kernel_rfl) (scR b codec code s A1 A2 A3 S1 S2) (fun _ _ _ _ => True) (scR_keep b codec code s A1 A2 A3 S1 S2) ?_ ?_
    · intro j hj ob ho vs w5 hb5 hpre
      have HN5 := Kp.mk (blk_keep HN1.out (bel_then (bel_drew (Below.refl w1.heap.size w1)) hb5))
      clear hb5
      rcases j with _ | _ | _ | _ | _ | _ | _ | _ | _ | _ | _ | _ | _ | _ | j
      · obtain rfl := Option.some.inj ho
        simp only [canon, List.range, List.range.loop, List.foldl]
        go_simp
        refine (HV1.out w5).mono ?_
        rintro e w3 ⟨⟨g, c, rfl, hr⟩, hb3⟩
        exact ⟨⟨g, c, rfl, hr⟩, hb3⟩
      · obtain ⟨g, c, e1, hr⟩ := hpre 0 (by decide) (by obtain rfl := Option.some.inj ho; rfl)
        have hcv := rd_string hr 60 9 Tryz.underlying60 Tryz.underlying9
        rw [← HA1.out] at hcv
        obtain rfl := Option.some.inj ho
        simp only [canon, List.range, List.range.loop, List.foldl]
        go_simp
        exact ⟨rfl, Below.refl _ _⟩
      · obtain rfl := Option.some.inj ho
        simp only [canon, List.range, List.range.loop, List.foldl]
        go_simp
        exact ⟨rfl, Below.refl _ _⟩
      · have e2 : vs 2 = _ := hpre 2 (by decide) (by obtain rfl := Option.some.inj ho; rfl)
        have c0 := blk_cell HN5.out 1
        obtain rfl := Option.some.inj ho
        simp only [canon, List.range, List.range.loop, List.foldl]
        go_simp
        exact ⟨rfl, Below.refl _ _⟩
      · have e3 : vs 3 = _ := hpre 3 (by decide) (by obtain rfl := Option.some.inj ho; rfl)
        obtain rfl := Option.some.inj ho
        simp only [canon, List.range, List.range.loop, List.foldl]
        go_simp
        refine (HV2.out w5).mono ?_
        rintro e w3 ⟨⟨g, c, rfl, hr⟩, hb3⟩
        exact ⟨⟨g, c, rfl, hr⟩, hb3⟩
      · obtain ⟨g, c, e1, hr⟩ := hpre 4 (by decide) (by obtain rfl := Option.some.inj ho; rfl)
        have hcv := rd_string hr 60 9 Tryz.underlying60 Tryz.underlying9
        rw [← HA2.out] at hcv
        obtain rfl := Option.some.inj ho
        simp only [canon, List.range, List.range.loop, List.foldl]
        go_simp
        exact ⟨rfl, Below.refl _ _⟩
      · have e1 : vs 1 = _ := hpre 1 (by decide) (by obtain rfl := Option.some.inj ho; rfl)
        have e5 : vs 5 = _ := hpre 5 (by decide) (by obtain rfl := Option.some.inj ho; rfl)
        obtain rfl := Option.some.inj ho
        simp only [canon, List.range, List.range.loop, List.foldl]
        go_simp
        rw [if_neg (Nat.not_lt.2 HQ1.out.1)]
        refine ⟨_, rfl, ?_, Below.refl _ _⟩
        show _ = _
        rw [HQ1.out.2]
      · obtain rfl := Option.some.inj ho
        simp only [canon, List.range, List.range.loop, List.foldl]
        go_simp
        exact ⟨rfl, Below.refl _ _⟩
      · have e7 : vs 7 = _ := hpre 7 (by decide) (by obtain rfl := Option.some.inj ho; rfl)
        have c0 := blk_cell HN5.out 2
        obtain rfl := Option.some.inj ho
        simp only [canon, List.range, List.range.loop, List.foldl]
        go_simp
        exact ⟨rfl, Below.refl _ _⟩
      · obtain rfl := Option.some.inj ho
        simp only [canon, List.range, List.range.loop, List.foldl]
        go_simp
        exact ⟨rfl, Below.refl _ _⟩
      · have e9 : vs 9 = _ := hpre 9 (by decide) (by obtain rfl := Option.some.inj ho; rfl)
        have c0 := blk_cell HN5.out 3
        obtain rfl := Option.some.inj ho
        simp only [canon, List.range, List.range.loop, List.foldl]
        go_simp
        exact ⟨rfl, Below.refl _ _⟩
      · have e8 : vs 8 = _ := hpre 8 (by decide) (by obtain rfl := Option.some.inj ho; rfl)
        have e10 : vs 10 = _ := hpre 10 (by decide) (by obtain rfl := Option.some.inj ho; rfl)
        obtain rfl := Option.some.inj ho
        simp only [canon, List.range, List.range.loop, List.foldl]
        go_simp
        refine (HM.out w5).mono ?_
        rintro e w3 ⟨rfl, hb3⟩
        exact ⟨rfl, hb3⟩
      · have e6 : vs 6 = _ := hpre 6 (by decide) (by obtain rfl := Option.some.inj ho; rfl)
        have e11 : vs 11 = _ := hpre 11 (by decide) (by obtain rfl := Option.some.inj ho; rfl)
        obtain rfl := Option.some.inj ho
        simp only [canon, List.range, List.range.loop, List.foldl]
        go_simp
        rw [if_neg (Nat.not_lt.2 HQ2.out.1)]
        refine ⟨_, rfl, ?_, Below.refl _ _⟩
        show _ = _
        rw [HQ2.out.2]
      · have e12 : vs 12 = _ := hpre 12 (by decide) (by obtain rfl := Option.some.inj ho; rfl)
        obtain rfl := Option.some.inj ho
        simp only [canon, List.range, List.range.loop, List.foldl]
        go_simp
        exact ⟨rfl, Below.refl _ _⟩
      · omega
    · intro vs w5 hb5 hr _
      have e13 : vs 13 = _ := hr 13 (by omega)
      have HB := Kp.mk (bel_then HB1.out (bel_then (bel_drew (Below.refl w1.heap.size w1)) hb5))
      refine wpAny_none (by kernel_rfl) ?_ _
      simp only [canon, List.range, List.range.loop, List.foldl]
      rw [e13]
      clear e13 hr hb5
      go_simp
      go_wp2_with fail
      go_ret
      exact ⟨⟨_, rfl⟩, HB.out⟩

set_option maxHeartbeats 8000000 in
set_option maxRecDepth 100000 in
/-- spec.TooLong. -/
theorem tooLong_calls (v codec code : Nat) (s : ByteArray) (o : OptI) (w : World) (hc1 : codec < 2 ^ 64) (hc2 : code < 2 ^ 64) (hs : s.size ≤ 1073741824) :
    Calls Tryz.prog 8 #[.agg #[.int .u64 v, .int .u64 codec, .int .u64 code, .string s], .agg o.cells] w fun e w' => (∃ r, e = .returned (.bool r)) ∧ Below w.heap.size w w' := by
  show Calls Tryz.prog 8 #[.agg #[.int .u64 v, .int .u64 codec, .int .u64 code, .string s], .agg #[.bool o.z, .bool o.id, .bool o.dup, .bool o.wh, .bool o.v1, .bool o.tr, .int .u64 o.dp, .int .u64 o.ip, .int .u64 o.codec, .int .u64 o.mc, .int .u64 o.mh, .int .u64 o.ms]] w _
  have HC := Kp.mk (fun w => specCb_calls v codec code s w hc1 hc2 hs)
  have HB0 := Kp.mk (fun o => bel_alloc (Below.refl w.heap.size w) o)
  have HB2 := Kp.mk (fun o o2 => bel_alloc (bel_alloc (Below.refl w.heap.size w) o) o2)
  have HN0 := Kp.mk (fun o o2 => blk_new (w := w) (o := o) (bel_alloc (Below.refl _ _) o2))
  have HN1 := Kp.mk (fun o o2 => blk_new2 (w := w) (o := o) (o2 := o2) (Below.refl _ _))
  clear hc1 hc2 hs
  go_enter Tryz.func8, Tryz.ntmps8
  by_cases h0 : o.mc = 0
  · have z0 : (o.mc : Int) = 0 := by omega
    go_wp2_with fail
    refine (HC.out _).mono ?_
    rintro e w1 ⟨⟨S, rfl⟩, hb⟩
    have HB := Kp.mk (bel_then (HB2.out _ _) hb)
    clear hb HC HB0 HB2 HN0 HN1
    go_wp2_with fail
    go_ret
    exact ⟨⟨_, rfl⟩, HB.out⟩
  · have z0 : (o.mc : Int) ≠ 0 := by omega
    go_wp2_with fail
    refine (HC.out _).mono ?_
    rintro e w1 ⟨⟨S, rfl⟩, hb⟩
    have HB := Kp.mk (bel_then (HB2.out _ _) hb)
    clear hb HC HB0 HB2 HN0 HN1
    go_wp2_with fail
    go_ret
    exact ⟨⟨_, rfl⟩, HB.out⟩

set_option maxHeartbeats 8000000 in
set_option maxRecDepth 100000 in
/-- spec.SameHash. -/
theorem sameHash_calls (v codec code : Nat) (s : ByteArray) (v' codec' code' : Nat) (s' : ByteArray) (w : World) :
    Calls Tryz.prog 20 #[.agg #[.int .u64 v, .int .u64 codec, .int .u64 code, .string s], .agg #[.int .u64 v', .int .u64 codec', .int .u64 code', .string s']] w fun e w' => e = .returned (.bool (decide (code = code') && decide (s = s'))) ∧ Below w.heap.size w w' := by
  have HB2 := Kp.mk (fun o o2 => bel_alloc (bel_alloc (Below.refl w.heap.size w) o) o2)
  go_enter Tryz.func20, Tryz.ntmps20
  by_cases h0 : code = code'
  · subst h0
    by_cases h1 : s = s'
    · subst h1
      go_wp2_with fail
      go_ret
      exact ⟨by first | rfl | simp, HB2.out _ _⟩
    · have hq := bytes_eql s s'
      rw [decide_eq_false h1] at hq
      have HD := Kp.mk (decide_eq_false h1)
      clear h1
      go_wp2_with fail
      go_ret
      exact ⟨by rw [HD.out]; first | rfl | simp, HB2.out _ _⟩
  · have z0 : (code : Int) ≠ code' := by omega
    go_wp2_with fail
    go_ret
    exact ⟨by simp [h0], HB2.out _ _⟩

end Go.Proofs.YtgjocdnpephcgaaGreatDoor
namespace Go.Proofs.YtgjocdnpephcgaaGreatDoor
open Go.RowKit

def cidC (e : Ent) : List Value := [.int .u64 e.v, .int .u64 e.codec, .int .u64 e.code, .string e.s]
theorem cidC_get (e : Ent) : ∀ j, j < 4 → (cidC e)[j]? = some (e.cell j)
  | 0, _ => rfl
  | 1, _ => rfl
  | 2, _ => rfl
  | 3, _ => rfl
theorem flatC_len (es : List Ent) : (es.flatMap cidC).length = es.length * 4 := by
  induction es with
  | nil => rfl
  | cons e es ih => rw [List.flatMap_cons, List.length_append, ih, List.length_cons]; simp [cidC]; omega
theorem flatC_get : ∀ (es : List Ent) (i j : Nat) (hi : i < es.length), j < 4 → (es.flatMap cidC)[i * 4 + j]? = some (es[i].cell j)
  | e :: es, 0, j, _, hj => by
    rw [List.flatMap_cons, Nat.zero_mul, Nat.zero_add, List.getElem?_append_left (by simpa [cidC] using hj)]
    exact cidC_get e j hj
  | e :: es, i + 1, j, hi, hj => by
    rw [List.flatMap_cons, List.getElem?_append_right (by simp [cidC]; omega), show (i + 1) * 4 + j - (cidC e).length = i * 4 + j by simp [cidC]; omega]
    exact flatC_get es i j (by simpa using hi) hj
theorem flatC_one (es : List Ent) : ∀ u ∈ es.flatMap cidC, u.oneCell' = true := by
  intro u hu
  obtain ⟨e, _, h⟩ := List.mem_flatMap.1 hu
  simp only [cidC, List.mem_cons, List.not_mem_nil, or_false] at h
  rcases h with rfl | rfl | rfl | rfl <;> rfl
/-- A row of these identifiers, of the call's own. -/
def OwnC (base : Nat) (w : World) (A : Option Addr) (cap : Nat) (es : List Ent) : Prop := w.ownsRow base 25 4 (.slice A es.length cap) es.length (es.flatMap cidC)
/-- A slice of these identifiers. -/
structure RdC (w : World) (A : Option Addr) (n : Nat) (es : List Ent) : Prop where
  len : es.length = n
  lies : 0 < n → ∃ g o, A = some ⟨g, o, none⟩ ∧ ∀ i (h : i < es.length) j, j < 4 → w.cell? ⟨g, o + i * 4 + j, none⟩ = some (es[i].cell j)
theorem RdC.below {w w1 : World} {A : Option Addr} {n : Nat} {es : List Ent} (h : RdC w A n es) (hb : Below w.heap.size w w1) : RdC w1 A n es :=
  ⟨h.len, fun hp => by obtain ⟨g, o, e, hc⟩ := h.lies hp; exact ⟨g, o, e, fun i hi j hj => cell_bel hb (hc i hi j hj)⟩⟩
theorem OwnC.rd {base : Nat} {w : World} {A : Option Addr} {cap : Nat} {es : List Ent} (h : OwnC base w A cap es) : RdC w A es.length es := by
  rcases h.2 with ⟨h1, h0⟩ | ⟨g, cap', cur, he, _, hb, hle, hm, hs, ht⟩
  · exact ⟨rfl, fun hp => by omega⟩
  · simp only [Value.slice.injEq] at he
    obtain ⟨rfl, _, rfl⟩ := he
    refine ⟨rfl, fun hp => ⟨g, 0, rfl, fun i hi j hj => ?_⟩⟩
    rw [blk_cell hb, Nat.zero_add]
    have h2 := flatC_get es i j hi hj
    rw [← ht, List.getElem?_take, if_pos (by omega)] at h2
    simpa using h2
theorem OwnC.below {base : Nat} {w w1 : World} {A : Option Addr} {cap : Nat} {es : List Ent} (h : OwnC base w A cap es) (hb : Below w.heap.size w w1) : OwnC base w1 A cap es := by
  obtain ⟨h1, h2⟩ := h
  refine ⟨h1, h2.imp id ?_⟩
  rintro ⟨g, cap, cur, e, h3, h4, h5⟩
  exact ⟨g, cap, cur, e, h3, blk_keep h4 hb, h5⟩
theorem info_cid : (Tryz.prog.info? 25).map (fun i => (i.zero, i.size, i.bytes)) = some (some (.agg #[.int .u64 0, .int .u64 0, .int .u64 0, .string ⟨#[]⟩]), 4, 40) := by kernel_rfl

/-- An append of one identifier. -/
theorem append_cid (base k : Nat) (A : Option Addr) (cap : Nat) (xs : List Ent) (E : Ent) (hk : k = xs.length) (w : World) (h : OwnC base w A cap xs) (hb : base ≤ w.heap.size) (hl : k ≤ 1000) (g : Nat) (hx : w.heap[g]? = some (.cells #[.int .u64 E.v, .int .u64 E.codec, .int .u64 E.code, .string E.s] 25 (0, 0))) :
    ∃ A' cap' w', (Builtin.append_ #[34, 34] 34 #[.slice A k cap, .slice (some ⟨g, 0, none⟩) 1 1]).run Tryz.prog w = .ok (.slice A' (k + 1) cap') w'
      ∧ OwnC base w' A' cap' (xs ++ [E]) ∧ Ex (fun j => base ≤ j) w w' := by
  obtain ⟨i, hi, hz, hs, hby⟩ := info_parts info_cid
  have hown : w.ownsRow base 25 4 (.slice A k cap) k (xs.flatMap cidC) := by rw [hk]; exact h
  obtain ⟨v', w', hr, ho, hg, _⟩ := run_append_own (P := Tryz.prog) w base 34 34 25 i _ 4 40 Tryz.underlying34 hi hz hs hby rfl (by omega) _ k _ hown ⟨g, 0, none⟩ 1 1 (cidC E) rfl
    (fun j u hj => by
      rw [add_plain, Nat.zero_add, blk_cell hx]
      match j, hj with
      | 0, hj => exact hj
      | 1, hj => exact hj
      | 2, hj => exact hj
      | 3, hj => exact hj) (fun u hu => by simp only [cidC, List.mem_cons, List.not_mem_nil, or_false] at hu; rcases hu with rfl | rfl | rfl | rfl <;> rfl) (by unfold maxLen; omega) (by omega) hb
  have hv : ∃ A' cap', v' = .slice A' (k + 1) cap' := by
    rcases ho.2 with ⟨_, h0⟩ | ⟨g, cap, cur, rfl, _⟩
    · omega
    · exact ⟨_, _, rfl⟩
  obtain ⟨A', cap', rfl⟩ := hv
  refine ⟨A', cap', w', hr, by unfold OwnC; rw [List.length_append, ← hk, List.flatMap_append]; simpa using ho, hg.os, hg.tape, hg.output, hg.size, fun j hj hp => hg.block j hj fun e => ?_⟩
  rcases h.2 with ⟨h0, _⟩ | ⟨g, cap2, cur, h0, hg0, _⟩
  · simp only [Value.slice.injEq] at h0
    rw [h0.1] at e; cases e
  · simp only [Value.slice.injEq] at h0
    rw [h0.1] at e
    simp [Value.ownBlock] at e
    exact hp (by omega)

set_option maxHeartbeats 8000000 in
set_option maxRecDepth 100000 in
/-- laws.stOf. -/
theorem stOf_calls (A : Option Addr) (n c : Nat) (es : List Ent) (w : World) (hr : RdE w A n c es) (hn : n ≤ 1000) :
    Calls Tryz.prog 11 #[.slice A n c] w fun e w' => (∃ A' c', e = .returned (.slice A' n c') ∧ RdC w' A' n es) ∧ Below w.heap.size w w' := by
  have HR := Kp.mk hr
  have HN := Kp.mk hn
  clear hr hn
  go_enter Tryz.func11, Tryz.ntmps11
  go_wp2_with fail
  go_loopw [3, 8] (fun vo vi wr => ∃ (i : Nat) (A' : Option Addr) (cap' : Nat), vi = .int .i64 (i : Int) ∧ vo = .slice A' i cap' ∧ i ≤ n ∧ Kp (OwnC w.heap.size wr A' cap' (es.take i) ∧ Below w.heap.size w wr))
    (fun _ vi _ => n - (match vi with | .int _ z => z.toNat | _ => 0))
  case atStart => exact ⟨0, none, 0, rfl, rfl, Nat.zero_le _, ⟨by rw [List.take_zero]; exact ⟨rfl, .inl ⟨rfl, rfl⟩⟩, Below.refl _ _⟩⟩
  case round =>
    obtain ⟨i, A', cap', rfl, rfl, hi, HI⟩ := hrel
    by_cases hin : i < n
    · have hil : i < es.length := by rw [HR.out.len]; exact hin
      have htl : i = (es.take i).length := by rw [List.length_take]; omega
      obtain ⟨g, o, rfl, hc⟩ := (HR.out.below HI.out.2).lies (by omega)
      have c0 := hc i hil 0 (by omega)
      have c1 := hc i hil 1 (by omega)
      have c2 := hc i hil 2 (by omega)
      have c3 := hc i hil 3 (by omega)
      have c4 := hc i hil 4 (by omega)
      have htk : es.take (i + 1) = es.take i ++ [es[i]] := List.take_succ_eq_append_getElem hil
      obtain ⟨E, hE⟩ : ∃ E, E = es[i] := ⟨_, rfl⟩
      rw [← hE] at c0 c1 c2 c3 c4 htk
      simp only [Ent.cell, Nat.add_zero] at c0 c1 c2 c3 c4
      have hbe := bel_alloc (Below.refl wr.heap.size wr) (.cells #[.int .u64 E.v, .int .u64 E.codec, .int .u64 E.code, .string E.s, .int .u64 E.off] 38)
      have hb2 := bel_alloc hbe (.cells #[.int .u64 E.v, .int .u64 E.codec, .int .u64 E.code, .string E.s] 25)
      have hx := blk_new2 (w := wr) (o := .cells #[.int .u64 E.v, .int .u64 E.codec, .int .u64 E.code, .string E.s, .int .u64 E.off] 38) (o2 := .cells #[.int .u64 E.v, .int .u64 E.codec, .int .u64 E.code, .string E.s] 25) (Below.refl _ _)
      obtain ⟨A2, cap2, w2, hap, ho2, hx2⟩ := append_cid w.heap.size i A' cap' (es.take i) E htl _ (HI.out.1.below hb2) (Nat.le_trans HI.out.2.size hb2.size) (by have := HN.out; omega) (wr.heap.size + 1) hx
      have HN2 : Kp (OwnC w.heap.size w2 A2 cap2 (es.take (i + 1)) ∧ Below w.heap.size w w2) := ⟨by rw [htk]; exact ho2, (HI.out.2.trans (hb2.mono HI.out.2.size)).trans (hx2.toBelow (B := w.heap.size) (fun j hj e => by omega) (Nat.le_trans HI.out.2.size hb2.size))⟩
      have HAP := Kp.mk hap
      have d0 := fun o2 => blk_cell (blk_new (w := wr) (o := .cells #[.int .u64 E.v, .int .u64 E.codec, .int .u64 E.code, .string E.s, .int .u64 E.off] 38) (bel_alloc (Below.refl _ _) o2)) 0
      clear hc hE hbe hb2 hx hap ho2 hx2 htk htl d0
      have hwi : wrap64 ((i : Int) + 1) = (i : Int) + 1 := by have h3 := HN.out; unfold wrap64; omega
      go_wp2_with (at_builtin; refine Lib.wpList_append_run _ rfl _ _ _ _ rfl _ _ rfl rfl _ _ HAP.out ?_)
      go_roundw
      case rel => exact ⟨i + 1, A2, cap2, by first | (simp [hwi]; done) | (simp; done) | (rw [hwi]; rfl), rfl, by omega, HN2⟩
      case measure => simp; omega
    · have hin' : i = n := by omega
      subst hin'
      have htk : es.take i = es := by rw [List.take_of_length_le]; have := HR.out.len; omega
      rw [htk] at HI
      have HRD : Kp (RdC wr A' i es) := ⟨by have := HI.out.1.rd; rw [HR.out.len] at this; exact this⟩
      clear htk
      go_wp2_with fail
      go_ret
      exact ⟨⟨_, _, rfl, HRD.out⟩, HI.out.2⟩

end Go.Proofs.YtgjocdnpephcgaaGreatDoor
namespace Go.Proofs.YtgjocdnpephcgaaGreatDoor
open Go.RowKit

set_option maxRecDepth 100000 in
theorem eqCid (a b c : Nat) (s : ByteArray) (a' b' c' : Nat) (s' : ByteArray) (w : World) :
    (Op.equalIn 10000 25 (.agg #[.int .u64 a, .int .u64 b, .int .u64 c, .string s]) (.agg #[.int .u64 a', .int .u64 b', .int .u64 c', .string s'])).run Tryz.prog w = .ok (decide (a = a' ∧ b = b' ∧ c = c' ∧ s = s')) w := by
  have u3 := Tryz.underlying23
  have a3 := Tryz.isAgg23
  have z3 := Tryz.sizeOf23
  have u9 := Tryz.underlying9
  have a9 := Tryz.isAgg9
  have z9 := Tryz.sizeOf9
  have hq := bytes_eql s s'
  have hS : Tryz.prog.underlying 25 = some (.struct (Tryz.prog.fieldsOf 25)) := by kernel_rfl
  have hp : Tryz.prog.stoodInHeld 25 = false := by kernel_rfl
  rw [show (10000 : Nat) = 9999 + 1 from rfl, run_equalIn_agg w 9999 25 _ _ hS hp]
  simp only [Program.fieldsOf, Tryz.underlying25]
  go_simp
  by_cases h1 : a = a' <;> by_cases h2 : b = b' <;> by_cases h3 : c = c' <;> by_cases h4 : s = s' <;> simp [h1, h2, h3, h4] <;> (try (intros; omega))

/-- What Holds answers. -/
def holdsB (es : List Ent) (v codec code : Nat) (s : ByteArray) (id wh : Bool) : Bool :=
  if code = 0 ∧ id = false then true else es.any fun e => if wh then decide (e.v = v ∧ e.codec = codec ∧ e.code = code ∧ e.s = s) else (decide (e.code = code) && decide (e.s = s))

def hitB (wh : Bool) (v codec code : Nat) (s : ByteArray) (e : Ent) : Bool := if wh then decide (e.v = v ∧ e.codec = codec ∧ e.code = code ∧ e.s = s) else (decide (e.code = code) && decide (e.s = s))
theorem any_take {f : Ent → Bool} {es : List Ent} {i : Nat} (h : i < es.length) (hp : (es.take i).any f = false) (hn : f es[i] = false) : (es.take (i + 1)).any f = false := by
  rw [List.take_succ_eq_append_getElem h, List.any_append, hp]; simp [hn]

set_option maxHeartbeats 8000000 in
set_option maxRecDepth 100000 in
/-- spec.Holds. -/
theorem holds_calls (A : Option Addr) (n c : Nat) (es : List Ent) (v codec code : Nat) (s : ByteArray) (o : OptI) (w : World) (hr : RdC w A n es) (hn : n ≤ 1000) :
    Calls Tryz.prog 10 #[.slice A n c, .agg #[.int .u64 v, .int .u64 codec, .int .u64 code, .string s], .agg o.cells] w fun e w' => e = .returned (.bool (holdsB es v codec code s o.id o.wh)) ∧ Below w.heap.size w w' := by
  obtain ⟨z, id, dup, wh, v1, tr, dp, ip, oc, mc, mh, ms⟩ := o
  show Calls Tryz.prog 10 #[.slice A n c, .agg #[.int .u64 v, .int .u64 codec, .int .u64 code, .string s], .agg #[.bool z, .bool id, .bool dup, .bool wh, .bool v1, .bool tr, .int .u64 dp, .int .u64 ip, .int .u64 oc, .int .u64 mc, .int .u64 mh, .int .u64 ms]] w fun e w' => e = .returned (.bool (holdsB es v codec code s id wh)) ∧ Below w.heap.size w w'
  have HB2 := Kp.mk (bel_alloc (bel_alloc (Below.refl w.heap.size w) (.cells #[.int .u64 v, .int .u64 codec, .int .u64 code, .string s] 25)) (.cells #[.bool z, .bool id, .bool dup, .bool wh, .bool v1, .bool tr, .int .u64 dp, .int .u64 ip, .int .u64 oc, .int .u64 mc, .int .u64 mh, .int .u64 ms] 27))
  have HC := Kp.mk (blk_new (w := w) (o := .cells #[.int .u64 v, .int .u64 codec, .int .u64 code, .string s] 25) (bel_alloc (Below.refl _ _) (.cells #[.bool z, .bool id, .bool dup, .bool wh, .bool v1, .bool tr, .int .u64 dp, .int .u64 ip, .int .u64 oc, .int .u64 mc, .int .u64 mh, .int .u64 ms] 27)))
  have HO := Kp.mk (blk_new2 (w := w) (o := .cells #[.int .u64 v, .int .u64 codec, .int .u64 code, .string s] 25) (o2 := .cells #[.bool z, .bool id, .bool dup, .bool wh, .bool v1, .bool tr, .int .u64 dp, .int .u64 ip, .int .u64 oc, .int .u64 mc, .int .u64 mh, .int .u64 ms] 27) (Below.refl _ _))
  have HR := Kp.mk hr
  have HN := Kp.mk hn
  clear hr hn
  have hcase : (((code : Int) == 0) = true ∧ id = false) ∨ (((code : Int) == 0) = true ∧ id = true) ∨ ((code : Int) == 0) = false := by
    by_cases h : (code : Int) = 0
    · cases id
      · exact .inl ⟨by simpa using h, rfl⟩
      · exact .inr (.inl ⟨by simpa using h, rfl⟩)
    · exact .inr (.inr (by simpa using h))
  rcases hcase with ⟨hd, rfl⟩ | hcase
  · have HD : Kp (holdsB es v codec code s false wh = true) := ⟨by unfold holdsB; rw [if_pos ⟨by simp at hd; omega, rfl⟩]⟩
    go_enter Tryz.func10, Tryz.ntmps10
    go_wp2_with fail
    go_ret
    exact ⟨by rw [HD.out]; rfl, HB2.out⟩
  have HD : Kp (holdsB es v codec code s id wh = es.any (hitB wh v codec code s)) := ⟨by
    unfold holdsB
    rw [if_neg (by rintro ⟨h1, h2⟩; rcases hcase with ⟨_, h⟩ | h
                   · rw [h] at h2; cases h2
                   · simp [h1] at h)]
    rfl⟩
  generalize hbv : holdsB es v codec code s id wh = bv at HD ⊢
  clear hbv
  go_enter Tryz.func10, Tryz.ntmps10
  rcases hcase with ⟨hd, rfl⟩ | hd
  all_goals (go_wp2_with fail)
  all_goals (generalize (w.alloc _).alloc _ = w1 at *)
  all_goals (
    go_loopw [19] (fun vi wr => ∃ (i : Nat), vi = .int .i64 (i : Int) ∧ i ≤ n ∧ Kp ((es.take i).any (hitB wh v codec code s) = false ∧ Below w1.heap.size w1 wr))
      (fun vi _ => n - (match vi with | .int _ z => z.toNat | _ => 0))
    case atStart => exact ⟨0, rfl, Nat.zero_le _, ⟨by rw [List.take_zero]; rfl, Below.refl _ _⟩⟩
    case round =>
      obtain ⟨i, rfl, hi, HI⟩ := hrel
      have HBW := Kp.mk (bel_then HB2.out HI.out.2)
      by_cases hin : i < n
      · have hil : i < es.length := by rw [HR.out.len]; exact hin
        obtain ⟨g, o, rfl, hc⟩ := (HR.out.below HBW.out).lies (by omega)
        have c0 := hc i hil 0 (by omega)
        have c1 := hc i hil 1 (by omega)
        have c2 := hc i hil 2 (by omega)
        have c3 := hc i hil 3 (by omega)
        obtain ⟨E, hE⟩ : ∃ E, E = es[i] := ⟨_, rfl⟩
        rw [← hE] at c0 c1 c2 c3
        simp only [Ent.cell, Nat.add_zero] at c0 c1 c2 c3
        have HM : Kp (E ∈ es) := ⟨by rw [hE]; exact List.getElem_mem hil⟩
        have HST : Kp (hitB wh v codec code s E = false → (es.take (i + 1)).any (hitB wh v codec code s) = false) := ⟨fun h => any_take hil HI.out.1 (by rw [← hE]; exact h)⟩
        have hbe := bel_alloc (Below.refl wr.heap.size wr) (.cells #[.int .u64 E.v, .int .u64 E.codec, .int .u64 E.code, .string E.s] 25)
        have k0 := blk_cell (blk_keep (blk_keep HC.out HI.out.2) hbe) 0
        have k1 := blk_cell (blk_keep (blk_keep HC.out HI.out.2) hbe) 1
        have k2 := blk_cell (blk_keep (blk_keep HC.out HI.out.2) hbe) 2
        have k3 := blk_cell (blk_keep (blk_keep HC.out HI.out.2) hbe) 3
        have o3 := blk_cell (blk_keep (blk_keep HO.out HI.out.2) hbe) 3
        have hwi : wrap64 ((i : Int) + 1) = (i : Int) + 1 := by have h3 := HN.out; unfold wrap64; omega
        have HA := Kp.mk (fun o => bel_alloc (Below.refl wr.heap.size wr) o)
        clear hc hE hil hbe
        cases wh with
        | true =>
          have heq := eqCid E.v E.codec E.code E.s v codec code s
          have HH : Kp (hitB true v codec code s E = decide (E.v = v ∧ E.codec = codec ∧ E.code = code ∧ E.s = s)) := ⟨rfl⟩
          generalize decide (E.v = v ∧ E.codec = codec ∧ E.code = code ∧ E.s = s) = bb at heq HH
          cases bb with
          | true =>
            have HT : Kp (bv = true) := ⟨by rw [HD.out]; exact List.any_eq_true.2 ⟨E, HM.out, HH.out⟩⟩
            go_wp2_with fail
            go_ret
            exact ⟨by rw [HT.out]; rfl, bel_then HBW.out (HA.out _)⟩
          | false =>
            have HNX : Kp ((es.take (i + 1)).any (hitB true v codec code s) = false) := ⟨HST.out HH.out⟩
            go_wp2_with fail
            go_roundw
            case rel => exact ⟨i + 1, by first | (simp [hwi]; done) | (simp; done) | (rw [hwi]; rfl), by omega, ⟨HNX.out, bel_then HI.out.2 (HA.out _)⟩⟩
            case measure => simp; omega
        | false =>
          have HS := Kp.mk (fun w => sameHash_calls E.v E.codec E.code E.s v codec code s w)
          have HH : Kp (hitB false v codec code s E = (decide (E.code = code) && decide (E.s = s))) := ⟨rfl⟩
          generalize (decide (E.code = code) && decide (E.s = s)) = bb at HS HH
          go_wp2_with fail
          refine (HS.out _).mono ?_
          rintro e w2 ⟨rfl, hb⟩
          have HB3 := Kp.mk (bel_then (HA.out _) hb)
          clear hb HS HA c0 c1 c2 c3 k0 k1 k2 k3 o3
          cases bb with
          | true =>
            have HT : Kp (bv = true) := ⟨by rw [HD.out]; exact List.any_eq_true.2 ⟨E, HM.out, HH.out⟩⟩
            go_wp2_with fail
            go_ret
            exact ⟨by rw [HT.out]; rfl, bel_then HBW.out HB3.out⟩
          | false =>
            have HNX : Kp ((es.take (i + 1)).any (hitB false v codec code s) = false) := ⟨HST.out HH.out⟩
            go_wp2_with fail
            go_roundw
            case rel => exact ⟨i + 1, by first | (simp [hwi]; done) | (simp; done) | (rw [hwi]; rfl), by omega, ⟨HNX.out, bel_then HI.out.2 HB3.out⟩⟩
            case measure => simp; omega
      · have hin' : i = n := by omega
        subst hin'
        have HT : Kp (bv = false) := ⟨by rw [HD.out, ← HI.out.1, List.take_of_length_le]; have := HR.out.len; omega⟩
        go_wp2_with fail
        go_ret
        exact ⟨by rw [HT.out]; rfl, HBW.out⟩)

end Go.Proofs.YtgjocdnpephcgaaGreatDoor
namespace Go.Proofs.YtgjocdnpephcgaaGreatDoor
open Go.RowKit

set_option maxHeartbeats 8000000 in
set_option maxRecDepth 100000 in
/-- store.IsIdentity. -/
theorem isId_calls (v codec code : Nat) (s : ByteArray) (w : World) (h : Tidy v codec code s) (hs : s.size ≤ 1073741824) (he : MhErrs w) :
    Calls Tryz.prog 41 #[.agg #[.string (strB (cidB v codec code s))]] w fun e w' => (∃ A n c, e = .returned (.tuple #[.slice A n c, .bool (decide (code = 0)), .nilIface])) ∧ Below w.heap.size w w' := by
  have HH := Kp.mk (fun w he => tHash_calls v codec code s w h hs he)
  have hlb := bl_length s
  have hmh : mhRead (mhBytes code (bl s)) = some (code, bl s, (mhBytes code (bl s)).length) := by
    have := mhRead_mhBytes (code := code) (d := bl s) [] (by rcases h with ⟨_, _, rfl, _⟩ | ⟨_, _, h⟩ <;> omega) (by omega)
    rwa [List.append_nil] at this
  have hmn : (mhBytes code (bl s)).length ≤ 2147483647 := by
    have a := Lib.uvarint_length64 (x := code) (by rcases h with ⟨_, _, rfl, _⟩ | ⟨_, _, h⟩ <;> omega)
    have b := Lib.uvarint_length64 (x := (bl s).length) (by omega)
    simp only [mhBytes, List.length_append]
    omega
  have HM := Kp.mk (And.intro hmh hmn)
  have HE := Kp.mk he
  clear hmh hmn he h hlb hs
  generalize strB (cidB v codec code s) = S at *
  have hdc : ((code : Int) == 0) = decide (code = 0) := by
    by_cases h : code = 0
    · simp [h]
    · rw [decide_eq_false h]; simp; exact h
  generalize decide (code = 0) = dc at *
  have HDC := Kp.mk hdc
  clear hdc
  go_enter Tryz.func41, Tryz.ntmps41
  have HB0 := Kp.mk (fun o => bel_alloc (Below.refl w.heap.size w) o)
  go_wp2_with fail
  refine (HH.out _ (HE.out.below (HB0.out _))).mono ?_
  rintro e w1 ⟨⟨A, n, c, rfl, hr⟩, hb⟩
  have hn := hr.len
  have HB1 := Kp.mk (bel_then (HB0.out _) hb)
  have HD := Kp.mk (decodeP_calls A n c _ w1 hr (HE.out.below HB1.out) (by have := HM.out.2; omega))
  clear hb hr HH HB0
  go_wp2_with fail
  refine HD.out.mono ?_
  rintro e w2 ⟨hu, hb⟩
  unfold DdEnd at hu
  rw [HM.out.1] at hu
  simp only [if_true] at hu
  obtain ⟨gd, A', c', rfl, hgd, hblk, hp⟩ := hu
  have HB2 := Kp.mk (bel_then HB1.out hb)
  have c0 := blk_cell hblk 0
  have c3 := blk_cell hblk 3
  have hdc := HDC.out
  clear hb hblk hp HD HB1 hn hgd
  go_wp2_with fail
  refine bodyPost_ret (results_tmp3 rfl _ _ _) rfl ?_
  exact ⟨⟨_, _, _, rfl⟩, HB2.out⟩

set_option maxHeartbeats 8000000 in
set_option maxRecDepth 100000 in
/-- store.Has. -/
theorem stHas_calls (B g v codec code mc : Nat) (s : ByteArray) (id dup wh : Bool) (es : List Ent) (w : World) (hO : OwnK B w g (keysOf es)) (hok : ∀ e ∈ es, e.ok) (h : Tidy v codec code s) (hs : s.size ≤ 1073741824) (he : MhErrs w) :
    Calls Tryz.prog 19 #[.pointer (some ⟨g, 0, none⟩), .agg #[.string (strB (cidB v codec code s))], .int .u64 mc, .bool id, .bool dup, .bool wh] w fun e w' => e = .returned (.tuple #[.bool (holdsB es v codec code s id wh), .nilIface]) ∧ Below w.heap.size w w' := by
  have hcode : code < 2 ^ 63 := by rcases h with ⟨_, _, rfl, _⟩ | ⟨_, _, h⟩ <;> omega
  -- what the index answers
  have hk1 : ((keysOf es).any fun y => decide (y.1 = bl s) && decide (y.2.1 = strB (cidB v codec code s))) = es.any (hitB true v codec code s) := by
    rw [Bool.eq_iff_iff, List.any_eq_true, List.any_eq_true]
    constructor
    · rintro ⟨y, hy, h2⟩
      obtain ⟨e, hmem, rfl⟩ := (keysOf_mem _ _).1 hy
      obtain ⟨h1, -, h3⟩ := hok e hmem
      refine ⟨e, hmem, ?_⟩
      obtain ⟨q1, q2⟩ := Bool.and_eq_true_iff.1 h2
      have p1 : bl e.s = bl s := of_decide_eq_true q1
      have p2 : strB (cidB e.v e.codec e.code e.s) = strB (cidB v codec code s) := of_decide_eq_true q2
      have hq := congrArg bl p2
      rw [bl_strB, bl_strB] at hq
      have r1 := h1.read (by omega) []
      have r2 := h.read (by omega) []
      rw [List.append_nil] at r1 r2
      rw [hq, r2] at r1
      simp only [Option.some.injEq, Prod.mk.injEq] at r1
      exact decide_eq_true ⟨r1.1.symm, r1.2.1.symm, r1.2.2.1.symm, bl_ext p1⟩
    · rintro ⟨e, hmem, h2⟩
      have h3 := of_decide_eq_true (show decide (e.v = v ∧ e.codec = codec ∧ e.code = code ∧ e.s = s) = true from h2)
      obtain ⟨rfl, rfl, rfl, rfl⟩ := h3
      exact ⟨e.key, (keysOf_mem _ _).2 ⟨e, hmem, rfl⟩, by simp [Ent.key]⟩
  have hk2 : ((keysOf es).any fun y => decide (y.1 = bl s) && decide (hashK y.2.1 = mhBytes code (bl s))) = es.any (hitB false v codec code s) := by
    rw [Bool.eq_iff_iff, List.any_eq_true, List.any_eq_true]
    constructor
    · rintro ⟨y, hy, h2⟩
      obtain ⟨e, hmem, rfl⟩ := (keysOf_mem _ _).1 hy
      obtain ⟨h1, -, h3⟩ := hok e hmem
      refine ⟨e, hmem, ?_⟩
      obtain ⟨q1, q2⟩ := Bool.and_eq_true_iff.1 h2
      have p1 : bl e.s = bl s := of_decide_eq_true q1
      have p2 : hashK (strB (cidB e.v e.codec e.code e.s)) = mhBytes code (bl s) := of_decide_eq_true q2
      have hc1 : e.code < 2 ^ 63 := by rcases h1 with ⟨_, _, hq, _⟩ | ⟨_, _, hq⟩ <;> omega
      have he1 := bl_length e.s
      have he2 := bl_length s
      have r1 := mhRead_mhBytes (code := e.code) (d := bl e.s) [] (by omega) (by omega)
      have r2 := mhRead_mhBytes (code := code) (d := bl s) [] (by omega) (by omega)
      rw [List.append_nil] at r1 r2
      rw [hashK_eq h1 (by omega)] at p2
      rw [p2, r2] at r1
      simp only [Option.some.injEq, Prod.mk.injEq] at r1
      show (decide (e.code = code) && decide (e.s = s)) = true
      rw [decide_eq_true r1.1.symm, decide_eq_true (bl_ext p1)]; rfl
    · rintro ⟨e, hmem, h2⟩
      have h3 : (decide (e.code = code) && decide (e.s = s)) = true := h2
      simp only [Bool.and_eq_true, decide_eq_true_eq] at h3
      obtain ⟨h3, h4⟩ := h3
      obtain ⟨h1, -, h5⟩ := hok e hmem
      refine ⟨e.key, (keysOf_mem _ _).2 ⟨e, hmem, rfl⟩, ?_⟩
      have p1 : bl e.s = bl s := by rw [h4]
      have p2 : hashK (strB (cidB e.v e.codec e.code e.s)) = mhBytes code (bl s) := by rw [hashK_eq h1 (by omega), h3, h4]
      exact Bool.and_eq_true_iff.2 ⟨decide_eq_true p1, decide_eq_true p2⟩
  have HB0 := Kp.mk (fun o => bel_alloc (Below.refl w.heap.size w) o)
  have HN0 := Kp.mk (fun o => blk_new (w := w) (o := o) (Below.refl _ _))
  have HI := Kp.mk (fun w he => isId_calls v codec code s w h hs he)
  have HX := Kp.mk (fun w hO he => hasEx_calls B g v codec code s (keysOf es) w hO h hs he)
  have HH := Kp.mk (fun w he => tHash_calls v codec code s w h hs he)
  have HM := Kp.mk (fun A n c w hO hr he => hasMh_calls B g code s A n c hashK (keysOf es) w hO (hash_ok hok) hcode hs hr he)
  rw [hk1] at HX
  rw [hk2] at HM
  have HE := Kp.mk he
  have HO := Kp.mk hO
  have HD : Kp (holdsB es v codec code s id wh = if code = 0 ∧ id = false then true else es.any (hitB wh v codec code s)) := ⟨rfl⟩
  generalize holdsB es v codec code s id wh = bv at HD ⊢
  clear hk1 hk2 he hok h hs hcode hO
  obtain ⟨S, hS⟩ : ∃ S, S = strB (cidB v codec code s) := ⟨_, rfl⟩
  rw [← hS] at HI HX HH ⊢
  clear hS
  generalize keysOf es = K at *
  go_enter Tryz.func19, Tryz.ntmps19
  cases id with
  | false =>
    have HT1 : Kp (code = 0 → bv = true) := ⟨fun hz => by rw [HD.out, if_pos ⟨hz, rfl⟩]⟩
    have HT2 : Kp (¬ code = 0 → bv = es.any (hitB wh v codec code s)) := ⟨fun hz => by rw [HD.out, if_neg (fun h => hz h.1)]⟩
    clear HD
    go_wp2_with fail
    refine (HI.out _ (HE.out.below (HB0.out _))).mono ?_
    rintro e w1 ⟨⟨A, n, c, rfl⟩, hb⟩
    have HB1 := Kp.mk (bel_then (HB0.out _) hb)
    have HN1 := Kp.mk (blk_keep (HN0.out _) hb)
    by_cases hz : code = 0
    · rw [decide_eq_true hz]
      have HT : Kp (bv = true) := ⟨HT1.out hz⟩
      clear hb hz HI
      go_wp2_with fail
      refine bodyPost_ret (results_tmp2 rfl _ _ _) rfl ?_
      exact ⟨by rw [HT.out]; rfl, HB1.out⟩
    · rw [decide_eq_false hz]
      have HT : Kp (bv = es.any (hitB wh v codec code s)) := ⟨HT2.out hz⟩
      have c0 := blk_cell HN1.out 0
      clear hb hz HI
      cases wh with
      | true =>
        go_wp2_with fail
        clear c0
        refine (HX.out _ (HO.out.below HB1.out) (HE.out.below HB1.out)).mono ?_
        rintro e w2 ⟨rfl, hb⟩
        have HB2 := Kp.mk (bel_then HB1.out hb)
        clear hb HX
        go_wp2_with fail
        refine bodyPost_ret (results_tmp2 rfl _ _ _) rfl ?_
        exact ⟨by rw [HT.out]; rfl, HB2.out⟩
      | false =>
        go_wp2_with fail
        clear c0
        refine (HH.out _ (HE.out.below HB1.out)).mono ?_
        rintro e w2 ⟨⟨A', n', c', rfl, hr⟩, hb⟩
        have HB2 := Kp.mk (bel_then HB1.out hb)
        have HR := Kp.mk hr
        clear hb hr HH
        go_wp2_with fail
        refine (HM.out _ _ _ _ (HO.out.below HB2.out) HR.out (HE.out.below HB2.out)).mono ?_
        rintro e w3 ⟨rfl, hb⟩
        have HB3 := Kp.mk (bel_then HB2.out hb)
        clear hb HM
        go_wp2_with fail
        refine bodyPost_ret (results_tmp2 rfl _ _ _) rfl ?_
        exact ⟨by rw [HT.out]; rfl, HB3.out⟩
  | true =>
    have HT : Kp (bv = es.any (hitB wh v codec code s)) := ⟨by rw [HD.out, if_neg (fun h => by cases h.2)]⟩
    cases wh with
    | true =>
      go_wp2_with fail
      refine (HX.out _ (HO.out.below (HB0.out _)) (HE.out.below (HB0.out _))).mono ?_
      rintro e w2 ⟨rfl, hb⟩
      have HB2 := Kp.mk (bel_then (HB0.out _) hb)
      clear hb HX
      go_wp2_with fail
      refine bodyPost_ret (results_tmp2 rfl _ _ _) rfl ?_
      exact ⟨by rw [HT.out]; rfl, HB2.out⟩
    | false =>
      go_wp2_with fail
      refine (HH.out _ (HE.out.below (HB0.out _))).mono ?_
      rintro e w2 ⟨⟨A', n', c', rfl, hr⟩, hb⟩
      have HB2 := Kp.mk (bel_then (HB0.out _) hb)
      have HR := Kp.mk hr
      clear hb hr HH
      go_wp2_with fail
      refine (HM.out _ _ _ _ (HO.out.below HB2.out) HR.out (HE.out.below HB2.out)).mono ?_
      rintro e w3 ⟨rfl, hb⟩
      have HB3 := Kp.mk (bel_then HB2.out hb)
      clear hb HM
      go_wp2_with fail
      refine bodyPost_ret (results_tmp2 rfl _ _ _) rfl ?_
      exact ⟨by rw [HT.out]; rfl, HB3.out⟩

end Go.Proofs.YtgjocdnpephcgaaGreatDoor
