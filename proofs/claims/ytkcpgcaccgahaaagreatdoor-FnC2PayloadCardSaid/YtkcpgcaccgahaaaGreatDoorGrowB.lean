/- Some texts in one: GrowS, Rest. -/
import Derived.Test.YtkcpgcaccgahaaaGreatDoorGrowA
namespace Go.Proofs.YtkcpgcaccgahaaaGreatDoor
open Go.RowKit
section
variable {P : Program} {ops : Array Oper} {Q : Exit → Act → World → Prop}

def doneOf (listed : Array Bool) (j : Nat) : Bool := listed.getD j false
/-- What is known behind some of the operations. -/
structure GrowIS (ops : Array Oper) (a0 : Act) (V : Nat → Value) (St : (Nat → Bool) → World) (listed : Array Bool) (a : Act) (w : World) : Prop where
  size : listed.size = ops.size
  shut : ∀ (i : Nat) (o : Oper), ops[i]? = some o → listed[i]? = some true → ∀ e ∈ o.after, Region.binds .any e = true → listed[e.on]? = some true
  st : w = St (doneOf listed)
  vals : ∃ vs : Nat → Value, a = canon ops a0 vs ops.size ∧ ∀ i, listed[i]? = some true → vs i = V i

theorem wpAny_growS {a0 : Act} (V : Nat → Value) (St : (Nat → Bool) → World) (hdst : apartDst ops ops.size) (hlate : lateB ops ops.size = true)
    (hop : ∀ i, i < ops.size → ∀ o, ops[i]? = some o → ∀ (f : Nat → Bool) vs, f i = false → (∀ j oj, ops[j]? = some oj → waitsT ops ops.size oj i = true → f j = false) →
      (∀ j, j < ops.size → waitsFor o j = true → vs j = V j) → (∀ j, waitsT ops ops.size o j = true → f j = true) →
      o.wp P (canon ops a0 vs ops.size) (St f) (fun a' w' => ∃ v, a' = (canon ops a0 vs ops.size).put o.dst v ∧ v = V i ∧ w' = St (fun j => if j = i then true else f j)) Q)
    (hend : ∀ vs, (∀ i, i < ops.size → vs i = V i) → wpAny P .any ops Q 0 (listedTo ops.size ops.size) (canon ops a0 vs ops.size) (St (fun j => decide (j < ops.size)))) :
    ∀ (fuel : Nat) (listed : Array Bool) (a : Act) (w : World), left listed = fuel → GrowIS ops a0 V St listed a w → wpAny P .any ops Q fuel listed a w := by
  have hfull : ∀ listed : Array Bool, listed.size = ops.size → (∀ i, i < ops.size → listed[i]? = some true) → listed = listedTo ops.size ops.size ∧ doneOf listed = (fun j => decide (j < ops.size)) := by
    intro listed hs hall
    refine ⟨?_, ?_⟩
    · apply Array.ext
      · simp [listedTo, hs]
      · intro i h1 h2
        have := hall i (by omega)
        rw [Array.getElem?_eq_getElem h1] at this
        simp only [listedTo, List.getElem_toArray, List.getElem_map, List.getElem_range]
        rw [Option.some.inj this]
        exact (decide_eq_true (by omega)).symm
    · funext j
      unfold doneOf
      rw [Array.getD_eq_getD_getElem?]
      by_cases hj : j < ops.size
      · rw [hall j hj]; simp [hj]
      · rw [Array.getElem?_eq_none (by omega)]; simp [hj]
  intro fuel
  induction fuel with
  | zero =>
    intro listed a w hl hI
    obtain ⟨hs, hsh, rfl, vs, rfl, hv⟩ := hI
    have hall : ∀ i, i < ops.size → listed[i]? = some true := fun i hi => by
      have hi' : i < listed.size := by omega
      rw [Array.getElem?_eq_getElem hi']
      cases hb : listed[i] with
      | true => rfl
      | false =>
        have := left_set listed i (by rw [Array.getElem?_eq_getElem hi', hb])
        omega
    obtain ⟨e1, e2⟩ := hfull listed hs hall
    have := hend vs (fun i hi => hv i (hall i hi))
    rw [e2, e1]
    exact this
  | succ fuel ih =>
    intro listed a w hl hI
    obtain ⟨hs, hsh, rfl, vs, rfl, hv⟩ := hI
    have hlt : ∀ j o, ops[j]? = some o → (∀ e ∈ o.after, Region.binds .any e = true → e.on < j) ∧ o.guard = none := fun j o hj => by
      have hjn : j < ops.size := (Array.getElem?_eq_some_iff.1 hj).1
      have h1 := List.all_eq_true.1 hlate j (List.mem_range.2 hjn)
      simp only [hj, Bool.and_eq_true] at h1
      obtain ⟨h2, h3⟩ := h1
      refine ⟨fun e he hbd => ?_, ?_⟩
      · have := Array.all_eq_true_iff_forall_mem.1 h2 e he
        rw [hbd] at this
        simpa using this
      · rw [if_pos hjn] at h3; simpa using h3
    have hmem : ∀ i, i ∈ Region.ready .any ops listed ↔ i < ops.size ∧ listed[i]? = some false ∧ ∃ o, ops[i]? = some o ∧ ∀ e ∈ o.after, Region.binds .any e = true → listed[e.on]? = some true := fun i => by
      unfold Region.ready
      rw [List.mem_filter, List.mem_range]
      constructor
      · rintro ⟨hi, h1⟩
        simp only [Bool.and_eq_true, Bool.not_eq_true'] at h1
        obtain ⟨h2, h3⟩ := h1
        have hi' : i < listed.size := by omega
        refine ⟨hi, ?_, ops[i], Array.getElem?_eq_getElem hi, fun e he hbd => ?_⟩
        · rw [Array.getElem?_eq_getElem hi']
          rw [Array.getD_eq_getD_getElem?, Array.getElem?_eq_getElem hi'] at h2
          simpa using h2
        · rw [Array.getElem?_eq_getElem hi] at h3
          simp only [Option.map_some, Option.getD_some] at h3
          have h4 := Array.all_eq_true_iff_forall_mem.1 h3 e he
          rw [hbd] at h4
          simp only [Bool.not_true, Bool.false_or] at h4
          rw [Array.getD_eq_getD_getElem?] at h4
          cases hq : listed[e.on]? with
          | none => rw [hq] at h4; cases h4
          | some b => rw [hq] at h4; simp at h4; rw [h4]
      · rintro ⟨hi, h1, o, ho, h2⟩
        refine ⟨hi, ?_⟩
        rw [Array.getD_eq_getD_getElem?, h1, ho]
        simp only [Option.getD_some, Bool.not_false, Bool.true_and, Option.map_some]
        rw [Array.all_eq_true_iff_forall_mem]
        intro e he
        cases hbd : Region.binds .any e with
        | false => rfl
        | true => rw [Array.getD_eq_getD_getElem?, h2 e he hbd]; rfl
    refine ⟨fun hr => ?_, fun i hi => ?_⟩
    · exfalso
      have hex : ∀ k, k ≤ ops.size → ∀ i, i < k → listed[i]? = some true := fun k => by
        induction k with
        | zero => intro _ i hi; omega
        | succ k ihk =>
          intro hk i hi
          by_cases hik : i < k
          · exact ihk (by omega) i hik
          · obtain rfl : i = k := by omega
            have hi' : i < listed.size := by omega
            cases hbv : listed[i] with
            | true => rw [Array.getElem?_eq_getElem hi', hbv]
            | false =>
              have hio : i < ops.size := by omega
              have : i ∈ Region.ready .any ops listed := (hmem i).2 ⟨hio, by rw [Array.getElem?_eq_getElem hi', hbv], ops[i], Array.getElem?_eq_getElem hio, fun e he hbd => ihk (by omega) _ ((hlt i _ (Array.getElem?_eq_getElem hio)).1 e he hbd)⟩
              rw [hr] at this
              cases this
      obtain ⟨e1, _⟩ := hfull listed hs (hex ops.size (Nat.le_refl _))
      have h0 : left listed = 0 := by
        rw [e1]
        simp only [left, listedTo, List.length_eq_zero_iff, List.filter_eq_nil_iff]
        intro b hb
        obtain ⟨i, hi, rfl⟩ := List.mem_map.1 hb
        simp; exact List.mem_range.1 hi
      omega
    · obtain ⟨hin, hif, o, ho, hpre⟩ := (hmem i).1 hi
      have hg := (hlt i o ho).2
      have hfi : doneOf listed i = false := by unfold doneOf; rw [Array.getD_eq_getD_getElem?, hif]; rfl
      have hop' := hop i hin o ho (doneOf listed) vs hfi (fun j oj hj hw => by
          cases hd : doneOf listed j with
          | false => rfl
          | true =>
            exfalso
            have hlj : listed[j]? = some true := by
              unfold doneOf at hd; rw [Array.getD_eq_getD_getElem?] at hd
              cases hq : listed[j]? with
              | none => rw [hq] at hd; cases hd
              | some b => rw [hq] at hd; simp at hd; rw [hd]
            have := waitsT_listed hsh _ oj i (hsh j oj hj hlj) hw
            rw [hif] at this; cases this)
        (fun j hj hw => hv j (by
          unfold waitsFor at hw
          obtain ⟨e, he, h2⟩ := List.any_eq_true.1 hw
          have he := Array.mem_toList_iff.1 he
          simp only [Bool.and_eq_true, beq_iff_eq] at h2
          rw [← h2.2]
          exact hpre e he h2.1))
        (fun j hw => by
          have := waitsT_listed hsh _ o j hpre hw
          unfold doneOf; rw [Array.getD_eq_getD_getElem?, this]; rfl)
      have hwant : Region.wanted o (yielded ops (canon ops a0 vs ops.size).tmps) = true := by simp [Region.wanted, hg]
      unfold wpOp
      simp only [ho, hwant, if_true]
      refine .inl (Oper.wp_mono (fun a' w' h => ?_) hop')
      obtain ⟨v, rfl, rfl, rfl⟩ := h
      have hl2 := left_set listed i hif
      have hod : (ops[i]?).bind (·.dst) = o.dst := by rw [ho]; rfl
      refine ih _ _ _ (by omega) ⟨by simpa using hs, fun j oj hoj hlj e he hbd => ?_, ?_, fun j => if j = i then V i else vs j, by rw [← hod]; exact canon_put vs i (V i) _ hin hdst, fun j hl => ?_⟩
      · have hgo : listed[e.on]? = some true := by
          by_cases hji : j = i
          · subst hji
            obtain rfl := Option.some.inj (ho.symm.trans hoj)
            exact hpre e he hbd
          · rw [Array.getElem?_setIfInBounds_ne (fun h => hji h.symm)] at hlj
            exact hsh j oj hoj hlj e he hbd
        rw [Array.getElem?_setIfInBounds_ne (fun h => by rw [h] at hif; rw [hgo] at hif; cases hif)]
        exact hgo
      · congr 1
        funext j
        unfold doneOf
        rw [Array.getD_eq_getD_getElem?, Array.getD_eq_getD_getElem?, Array.getElem?_setIfInBounds]
        by_cases hji : j = i
        · subst hji; rw [if_pos rfl, if_pos rfl, if_pos (by omega)]; rfl
        · rw [if_neg hji, if_neg (fun h => hji h.symm)]
      · show (if j = i then V i else vs j) = V j
        by_cases hji : j = i
        · rw [if_pos hji, hji]
        · rw [if_neg hji]
          rw [Array.getElem?_setIfInBounds_ne (fun h => hji h.symm)] at hl
          exact hv j hl

/-- THE RULE. -/
theorem wp_region_growS {id : Nat} {a0 : Act} {w0 : World} (hmix : P.follows .mixedOrders = true) (m : Nat) (hm : ops.size = m) (V : Nat → Value) (St : (Nat → Bool) → World) (h0 : w0.drew = St (fun _ => false)) (hdst : apartDst ops m) (hlate : lateB ops m = true)
    (hop : ∀ i, i < m → ∀ o, ops[i]? = some o → ∀ (f : Nat → Bool) vs, f i = false → (∀ j oj, ops[j]? = some oj → waitsT ops m oj i = true → f j = false) →
      (∀ j, j < m → waitsFor o j = true → vs j = V j) → (∀ j, waitsT ops m o j = true → f j = true) →
      o.wp P (canon ops a0 vs m) (St f) (fun a' w' => ∃ v, a' = (canon ops a0 vs m).put o.dst v ∧ v = V i ∧ w' = St (fun j => if j = i then true else f j)) Q)
    (hend : ∀ vs, (∀ i, i < m → vs i = V i) → wpAny P .any ops Q 0 (listedTo m m) (canon ops a0 vs m) (St (fun j => decide (j < m)))) : (Code.region id ops true).wp P Q a0 w0 := by
  subst hm
  refine wp_region_any hmix ?_
  have hleft : ∀ n, left (Array.replicate n false) = n := fun n => by simp [left]
  refine wpAny_growS V St hdst hlate hop hend _ _ _ _ (hleft _) ⟨by simp, fun i o _ h => by (rw [Array.getElem?_replicate] at h; split at h <;> simp at h), ?_, _, (canon_self ops a0 ops.size).symm, fun i h => ?_⟩
  · refine h0.trans ?_
    congr 1
    funext j
    unfold doneOf
    rw [Array.getD_eq_getD_getElem?, Array.getElem?_replicate]
    split <;> rfl
  · rw [Array.getElem?_replicate] at h; split at h <;> simp at h

end
end Go.Proofs.YtkcpgcaccgahaaaGreatDoor
namespace Go.Proofs.YtkcpgcaccgahaaaGreatDoor
open Go.RowKit
section
variable {P : Program} {ops : Array Oper} {Q : Exit → Act → World → Prop} {md : Region.Mode}

theorem wpAny_growK (kk : Nat) (Rl : World → World → Prop) (htr : ∀ a b c, Rl a b → Rl b c → Rl a c) {a0 : Act} {w0 : World} (m : Nat) (hmn : m ≤ ops.size) (hdst : apartDst ops m) (hlate : lateB ops m = true)
    (R : Nat → Value → World → Prop) (D : Nat → Nat → Value → Value → Prop) (hR : ∀ i v w w', R i v w → Rl w w' → R i v w')
    (hop : ∀ i, kk ≤ i → i < m → ∀ o, ops[i]? = some o → ∀ vs w, Rl w0 w → (∀ j, j < m → waitsFor o j = true → R j (vs j) w) →
      o.wp P (canon ops a0 vs m) w (fun a' w' => ∃ v, a' = (canon ops a0 vs m).put o.dst v ∧ R i v w' ∧ Rl w w' ∧ ∀ j, j < m → R j (vs j) w → D i j v (vs j)) Q)
    (hend : ∀ vs w, Rl w0 w → (∀ i, i < m → R i (vs i) w) → (∀ i j, i < m → j < m → i ≠ j → D i j (vs i) (vs j) ∨ D j i (vs j) (vs i)) →
      wpAny P .any ops Q (ops.size - m) (listedTo ops.size m) (canon ops a0 vs m) w) :
    ∀ (fuel : Nat) (listed : Array Bool) (a : Act) (w : World), left listed = fuel → GrowIR Rl ops a0 w0 m R D listed a w → (∀ j, j < kk → listed[j]? = some true) → wpAny P .any ops Q fuel listed a w := by
  intro fuel
  induction fuel with
  | zero =>
    intro listed a w hl hI hK
    obtain ⟨hs, hla, hsh, hb, vs, rfl, hv, hd⟩ := hI
    have hall : ∀ i, i < ops.size → listed[i]? = some true := fun i hi => by
      have hi' : i < listed.size := by omega
      rw [Array.getElem?_eq_getElem hi']
      cases hb : listed[i] with
      | true => rfl
      | false =>
        have := left_set listed i (by rw [Array.getElem?_eq_getElem hi', hb])
        omega
    have hm : m = ops.size := by
      rcases Nat.lt_or_ge m ops.size with h | h
      · have h1 := hla m (Nat.le_refl _) h
        rw [hall m h] at h1; cases h1
      · omega
    have he := hend vs w hb (fun i hi => hv i hi (hall i (by omega))) (fun i j hi hj hne => hd i j hi hj hne (hall i (by omega)) (hall j (by omega)))
    have e : listedTo ops.size m = listed := by
      apply Array.ext
      · simp [listedTo, hs]
      · intro i h1 h2
        have := hall i (by omega)
        rw [Array.getElem?_eq_getElem h2] at this
        simp only [listedTo, List.getElem_toArray, List.getElem_map, List.getElem_range]
        rw [Option.some.inj this]
        exact decide_eq_true (by omega)
    rw [e, hm, Nat.sub_self] at he
    rwa [hm]
  | succ fuel ih =>
    intro listed a w hl hI hK
    by_cases hall : ∀ i, i < m → listed[i]? = some true
    · obtain ⟨hs, hla, hsh, hb, vs, rfl, hv, hd⟩ := hI
      have he := hend vs w hb (fun i hi => hv i hi (hall i hi)) (fun i j hi hj hne => hd i j hi hj hne (hall i hi) (hall j hj))
      have e : listedTo ops.size m = listed := by
        apply Array.ext
        · simp [listedTo, hs]
        · intro i h1 h2
          simp only [listedTo, List.getElem_toArray, List.getElem_map, List.getElem_range]
          by_cases hi : i < m
          · have := hall i hi
            rw [Array.getElem?_eq_getElem h2] at this
            rw [Option.some.inj this]
            exact decide_eq_true hi
          · have := hla i (by omega) (by omega)
            rw [Array.getElem?_eq_getElem h2] at this
            rw [Option.some.inj this]
            exact decide_eq_false hi
      have hf : ops.size - m = fuel + 1 := by
        rw [← hl, ← e]
        simp only [left, listedTo]
        have hlen : ∀ n, m ≤ n → (((List.range n).map fun i => decide (i < m)).filter (!·)).length = n - m := by
          intro n
          induction n with
          | zero => intro h; simp
          | succ n ihn =>
            intro h
            rw [List.range_succ, List.map_append, List.filter_append, List.length_append]
            by_cases hn : m ≤ n
            · rw [ihn hn]; simp [show ¬ n < m by omega]; omega
            · have hmn' : m = n + 1 := by omega
              have hz : ((List.range n).map fun i => decide (i < m)).filter (!·) = [] := by
                rw [List.filter_eq_nil_iff]
                intro b hb
                obtain ⟨i, hi, rfl⟩ := List.mem_map.1 hb
                simp; have := List.mem_range.1 hi; omega
              rw [hz]; simp [show n < m by omega]; omega
        exact (hlen _ hmn).symm
      rw [e, hf] at he
      exact he
    · obtain ⟨hs, hla, hsh, hb, vs, rfl, hv, hd⟩ := hI
      have hlt : ∀ j o, ops[j]? = some o → (∀ e ∈ o.after, Region.binds .any e = true → e.on < j) ∧ (j < m → o.guard = none) ∧ (m ≤ j → ∀ i, i < m → waitsT ops ops.size o i = true) := fun j o hj => by
        have hjn : j < ops.size := (Array.getElem?_eq_some_iff.1 hj).1
        have h1 := List.all_eq_true.1 hlate j (List.mem_range.2 hjn)
        simp only [hj, Bool.and_eq_true] at h1
        obtain ⟨h2, h3⟩ := h1
        refine ⟨fun e he hbd => ?_, fun hlt => ?_, fun hge i hi => ?_⟩
        · have := Array.all_eq_true_iff_forall_mem.1 h2 e he
          rw [hbd] at this
          simpa using this
        · rw [if_pos hlt] at h3; simpa using h3
        · rw [if_neg (by omega)] at h3
          exact List.all_eq_true.1 h3 i (List.mem_range.2 hi)
      have hmem : ∀ i, i ∈ Region.ready .any ops listed ↔ i < ops.size ∧ listed[i]? = some false ∧ ∃ o, ops[i]? = some o ∧ ∀ e ∈ o.after, Region.binds .any e = true → listed[e.on]? = some true := fun i => by
        unfold Region.ready
        rw [List.mem_filter, List.mem_range]
        constructor
        · rintro ⟨hi, h1⟩
          simp only [Bool.and_eq_true, Bool.not_eq_true'] at h1
          obtain ⟨h2, h3⟩ := h1
          have hi' : i < listed.size := by omega
          refine ⟨hi, ?_, ops[i], Array.getElem?_eq_getElem hi, fun e he hbd => ?_⟩
          · rw [Array.getElem?_eq_getElem hi']
            rw [Array.getD_eq_getD_getElem?, Array.getElem?_eq_getElem hi'] at h2
            simpa using h2
          · rw [Array.getElem?_eq_getElem hi] at h3
            simp only [Option.map_some, Option.getD_some] at h3
            have h4 := Array.all_eq_true_iff_forall_mem.1 h3 e he
            rw [hbd] at h4
            simp only [Bool.not_true, Bool.false_or] at h4
            rw [Array.getD_eq_getD_getElem?] at h4
            cases hq : listed[e.on]? with
            | none => rw [hq] at h4; cases h4
            | some b => rw [hq] at h4; simp at h4; rw [h4]
        · rintro ⟨hi, h1, o, ho, h2⟩
          refine ⟨hi, ?_⟩
          rw [Array.getD_eq_getD_getElem?, h1, ho]
          simp only [Option.getD_some, Bool.not_false, Bool.true_and, Option.map_some]
          rw [Array.all_eq_true_iff_forall_mem]
          intro e he
          cases hbd : Region.binds .any e with
          | false => rfl
          | true => rw [Array.getD_eq_getD_getElem?, h2 e he hbd]; rfl
      refine ⟨fun hr => ?_, fun i hi => ?_⟩
      · -- something of the first m is still to come, and yet nothing may: the least such
        exfalso
        have hex : ∀ k, k ≤ m → ∀ i, i < k → listed[i]? = some true := fun k => by
          induction k with
          | zero => intro _ i hi; omega
          | succ k ihk =>
            intro hk i hi
            by_cases hik : i < k
            · exact ihk (by omega) i hik
            · obtain rfl : i = k := by omega
              have hi' : i < listed.size := by omega
              cases hbv : listed[i] with
              | true => rw [Array.getElem?_eq_getElem hi', hbv]
              | false =>
                have hio : i < ops.size := by omega
                have : i ∈ Region.ready .any ops listed := (hmem i).2 ⟨hio, by rw [Array.getElem?_eq_getElem hi', hbv], ops[i], Array.getElem?_eq_getElem hio, fun e he hbd => ihk (by omega) _ ((hlt i _ (Array.getElem?_eq_getElem hio)).1 e he hbd)⟩
                rw [hr] at this
                cases this
        exact hall (hex m (Nat.le_refl _))
      · obtain ⟨hin, hif, o, ho, hpre⟩ := (hmem i).1 hi
        have him : i < m := by
          rcases Nat.lt_or_ge i m with h | h
          · exact h
          · exfalso
            refine hall fun j hj => ?_
            exact waitsT_listed hsh _ o j hpre ((hlt i o ho).2.2 h j hj)
        have hg := (hlt i o ho).2.1 him
        have hki : kk ≤ i := by
          rcases Nat.lt_or_ge i kk with h | h
          · exact absurd (hK i h) (by rw [hif]; simp)
          · exact h
        have hop' := hop i hki him o ho vs w hb (fun j hj hw => hv j hj (by
          unfold waitsFor at hw
          obtain ⟨e, he, h2⟩ := List.any_eq_true.1 hw
          have he := Array.mem_toList_iff.1 he
          simp only [Bool.and_eq_true, beq_iff_eq] at h2
          rw [← h2.2]
          exact hpre e he h2.1))
        have hwant : Region.wanted o (yielded ops (canon ops a0 vs m).tmps) = true := by simp [Region.wanted, hg]
        unfold wpOp
        simp only [ho, hwant, if_true]
        refine .inl (Oper.wp_mono (fun a' w' h => ?_) hop')
        obtain ⟨v, rfl, hRv, hbel, hDv⟩ := h
        have hl2 := left_set listed i hif
        have hod : (ops[i]?).bind (·.dst) = o.dst := by rw [ho]; rfl
        refine ih _ _ w' (by omega) ⟨by simpa using hs, fun j h1 h2 => ?_, fun j oj hoj hlj e he hbd => ?_, htr _ _ _ hb hbel, fun j => if j = i then v else vs j, by rw [← hod]; exact canon_put vs i v m him hdst, fun j hj hl => ?_, fun j k hj hk hne hlj hlk => ?_⟩ (fun j hj => ?_)
        · rw [Array.getElem?_setIfInBounds_ne (by omega)]; exact hla j h1 h2
        · have hgo : listed[e.on]? = some true := by
            by_cases hji : j = i
            · subst hji
              obtain rfl := Option.some.inj (ho.symm.trans hoj)
              exact hpre e he hbd
            · rw [Array.getElem?_setIfInBounds_ne (fun h => hji h.symm)] at hlj
              exact hsh j oj hoj hlj e he hbd
          rw [Array.getElem?_setIfInBounds_ne (fun h => by rw [h] at hif; rw [hgo] at hif; cases hif)]
          exact hgo
        · show R j (if j = i then v else vs j) w'
          by_cases hji : j = i
          · subst hji; rw [if_pos rfl]; exact hRv
          · rw [if_neg hji]
            rw [Array.getElem?_setIfInBounds_ne (fun h => hji h.symm)] at hl
            exact hR j _ w w' (hv j hj hl) hbel
        · show D j k (if j = i then v else vs j) (if k = i then v else vs k) ∨ D k j (if k = i then v else vs k) (if j = i then v else vs j)
          by_cases hji : j = i
          · subst hji
            rw [Array.getElem?_setIfInBounds_ne hne] at hlk
            rw [if_pos rfl, if_neg (fun h => hne h.symm)]
            exact .inl (hDv k hk (hv k hk hlk))
          · rw [Array.getElem?_setIfInBounds_ne (fun h => hji h.symm)] at hlj
            by_cases hki : k = i
            · subst hki
              rw [if_pos rfl, if_neg hji]
              exact .inr (hDv j hj (hv j hj hlj))
            · rw [Array.getElem?_setIfInBounds_ne (fun h => hki h.symm)] at hlk
              rw [if_neg hji, if_neg hki]
              exact hd j k hj hk hne hlj hlk
        · rw [Array.getElem?_setIfInBounds_ne (by omega)]
          exact hK j hj

theorem ready_all (ops : Array Oper) : Region.ready .any ops (listedTo ops.size ops.size) = [] := by
  rw [List.eq_nil_iff_forall_not_mem]
  intro i hi
  unfold Region.ready at hi
  rw [List.mem_filter, List.mem_range] at hi
  obtain ⟨h1, h2⟩ := hi
  simp only [Bool.and_eq_true, Bool.not_eq_true'] at h2
  rw [Array.getD_eq_getD_getElem?, show (listedTo ops.size ops.size)[i]? = some (decide (i < ops.size)) by simp [listedTo, h1]] at h2
  simp [h1] at h2

theorem left_to (n m : Nat) (h : m ≤ n) : left (listedTo n m) = n - m := by
  simp only [left, listedTo]
  have hlen : ∀ n, m ≤ n → (((List.range n).map fun i => decide (i < m)).filter (!·)).length = n - m := by
    intro n
    induction n with
    | zero => intro h; simp
    | succ n ihn =>
      intro h
      rw [List.range_succ, List.map_append, List.filter_append, List.length_append]
      by_cases hn : m ≤ n
      · rw [ihn hn]; simp [show ¬ n < m by omega]; omega
      · have hmn' : m = n + 1 := by omega
        have hz : ((List.range n).map fun i => decide (i < m)).filter (!·) = [] := by
          rw [List.filter_eq_nil_iff]
          intro b hb
          obtain ⟨i, hi, rfl⟩ := List.mem_map.1 hb
          simp; have := List.mem_range.1 hi; omega
        rw [hz]; simp [show n < m by omega]; omega
  exact hlen _ h
theorem listedTo_at (n m i : Nat) (h : i < n) : (listedTo n m)[i]? = some (decide (i < m)) := by
  simp [listedTo, h]
/-- What stands in the operation's slot. -/
def selfV (ops : Array Oper) (a : Act) (i : Nat) : Value := (((ops[i]?).bind (·.dst)).map fun d => a.tmps.getD d undef).getD undef

theorem wpAny_restR0 (Rl : World → World → Prop) (hrf : ∀ w, Rl w w) (htr : ∀ a b c, Rl a b → Rl b c → Rl a c) {a : Act} {w : World} (kk : Nat) (hkk : kk ≤ ops.size) (hdst : apartDst ops ops.size) (hlate : lateB ops ops.size = true)
    (R : Nat → Value → World → Prop) (hR : ∀ i v w w', R i v w → Rl w w' → R i v w')
    (h0 : ∀ i, i < kk → R i (selfV ops a i) w)
    (hop : ∀ i, kk ≤ i → i < ops.size → ∀ o, ops[i]? = some o → ∀ vs w1, Rl w w1 → (∀ j, j < ops.size → waitsFor o j = true → R j (vs j) w1) →
      o.wp P (canon ops a vs ops.size) w1 (fun a' w' => ∃ v, a' = (canon ops a vs ops.size).put o.dst v ∧ R i v w' ∧ Rl w1 w') Q)
    (hend : ∀ vs w1, Rl w w1 → (∀ i, i < ops.size → R i (vs i) w1) → Q .normal (canon ops a vs ops.size) w1) :
    wpAny P .any ops Q (ops.size - kk) (listedTo ops.size kk) a w := by
  have hlt : ∀ j o, ops[j]? = some o → ∀ e ∈ o.after, Region.binds .any e = true → e.on < j := fun j o hj => by
    have hjn : j < ops.size := (Array.getElem?_eq_some_iff.1 hj).1
    have h1 := List.all_eq_true.1 hlate j (List.mem_range.2 hjn)
    simp only [hj, Bool.and_eq_true] at h1
    intro e he hbd
    have := Array.all_eq_true_iff_forall_mem.1 h1.1 e he
    rw [hbd] at this
    simpa using this
  refine wpAny_growK kk Rl htr (a0 := a) (w0 := w) ops.size (Nat.le_refl _) hdst hlate R (fun _ _ _ _ => True) hR (fun i hki hi o ho vs w1 hr hp => ?_) (fun vs w1 hr hv _ => ?_) _ _ a w (left_to _ _ hkk)
    ⟨by simp [listedTo], fun j h1 h2 => by omega, fun i o ho hl e he hbd => ?_, hrf _, selfV ops a, (canon_self ops a ops.size).symm, fun i hi hl => ?_, fun i j _ _ _ _ _ => .inl trivial⟩ (fun j hj => by rw [listedTo_at _ _ _ (by omega)]; simp [hj])
  · refine Oper.wp_mono (fun a' w' h => ?_) (hop i hki hi o ho vs w1 hr hp)
    obtain ⟨v, h1, h2, h3⟩ := h
    exact ⟨v, h1, h2, h3, fun _ _ _ => trivial⟩
  · have hq := hend vs w1 hr hv
    rw [Nat.sub_self]
    exact wpAny_none (ready_all _) hq 0
  · have hin : i < ops.size := (Array.getElem?_eq_some_iff.1 ho).1
    rw [listedTo_at _ _ _ hin] at hl
    have hik : i < kk := by simpa using hl
    have := hlt i o ho e he hbd
    rw [listedTo_at _ _ _ (by omega)]
    simp; omega
  · rw [listedTo_at _ _ _ hi] at hl
    exact h0 i (by simpa using hl)
/-- THE RULE: the operations behind the first kk, in whatever order (m: how many there are). -/
theorem wpAny_restR (Rl : World → World → Prop) (hrf : ∀ w, Rl w w) (htr : ∀ a b c, Rl a b → Rl b c → Rl a c) {a : Act} {w : World} (kk m : Nat) (hm : ops.size = m) (hkk : kk ≤ m) (hdst : apartDst ops m) (hlate : lateB ops m = true)
    (R : Nat → Value → World → Prop) (hR : ∀ i v w w', R i v w → Rl w w' → R i v w')
    (h0 : ∀ i, i < kk → R i (selfV ops a i) w)
    (hop : ∀ i, kk ≤ i → i < m → ∀ o, ops[i]? = some o → ∀ vs w1, Rl w w1 → (∀ j, j < m → waitsFor o j = true → R j (vs j) w1) →
      o.wp P (canon ops a vs m) w1 (fun a' w' => ∃ v, a' = (canon ops a vs m).put o.dst v ∧ R i v w' ∧ Rl w1 w') Q)
    (hend : ∀ vs w1, Rl w w1 → (∀ i, i < m → R i (vs i) w1) → Q .normal (canon ops a vs m) w1) :
    wpAny P .any ops Q (m - kk) (listedTo m kk) a w := by
  subst hm
  exact wpAny_restR0 Rl hrf htr kk hkk hdst hlate R hR h0 hop hend
end
end Go.Proofs.YtkcpgcaccgahaaaGreatDoor
