/- The rule for a region of open order whose operations leave values that are known ahead, each in a world that is known by which operations have been. No program in sight. -/
import Derived.Test.YtgjocdnpephcgaaGreatDoorGrowA
namespace Go.Proofs.YtgjocdnpephcgaaGreatDoor
open Go.RowKit
section
variable {P : Program} {ops : Array Oper} {Q : Exit → Act → World → Prop}

def doneOf (listed : Array Bool) (j : Nat) : Bool := listed.getD j false
/-- What is known behind some of the operations. -/
structure GrowIS (ops : Array Oper) (a0 : Act) (V : Nat → Value) (St : (Nat → Bool) → World) (listed : Array Bool) (a : Act) (w : World) : Prop where
  size : listed.size = ops.size
  shut : ∀ (i : Nat) (o : Oper), ops[i]? = some o → listed[i]? = some true → ∀ e ∈ o.after, Region.binds .any e = true → listed[e.on]? = some true
  st : w = St (doneOf listed)
  vals : ∃ vs : Nat → Value, a = canon ops a0 vs ops.size ∧ ∀ i, listed[i]? = some true → vs i = V i

theorem wpAny_growS {a0 : Act} (V : Nat → Value) (St : (Nat → Bool) → World) (hdst : apartDst ops ops.size) (hlate : lateB ops ops.size = true)
    (hop : ∀ i, i < ops.size → ∀ o, ops[i]? = some o → ∀ (f : Nat → Bool) vs, f i = false → (∀ j oj, ops[j]? = some oj → waitsT ops ops.size oj i = true → f j = false) →
      (∀ j, j < ops.size → waitsFor o j = true → vs j = V j) → (∀ j, waitsT ops ops.size o j = true → f j = true) →
      o.wp P (canon ops a0 vs ops.size) (St f) (fun a' w' => ∃ v, a' = (canon ops a0 vs ops.size).put o.dst v ∧ v = V i ∧ w' = St (fun j => if j = i then true else f j)) Q)
    (hend : ∀ vs, (∀ i, i < ops.size → vs i = V i) → wpAny P .any ops Q 0 (listedTo ops.size ops.size) (canon ops a0 vs ops.size) (St (fun j => decide (j < ops.size)))) :
    ∀ (fuel : Nat) (listed : Array Bool) (a : Act) (w : World), left listed = fuel → GrowIS ops a0 V St listed a w → wpAny P .any ops Q fuel listed a w := by
  have hfull : ∀ listed : Array Bool, listed.size = ops.size → (∀ i, i < ops.size → listed[i]? = some true) → listed = listedTo ops.size ops.size ∧ doneOf listed = (fun j => decide (j < ops.size)) := by
    intro listed hs hall
    refine ⟨?_, ?_⟩
    · apply Array.ext
      · simp [listedTo, hs]
      · intro i h1 h2
        have := hall i (by omega)
        rw [Array.getElem?_eq_getElem h1] at this
        simp only [listedTo, List.getElem_toArray, List.getElem_map, List.getElem_range]
        rw [Option.some.inj this]
        exact (decide_eq_true (by omega)).symm
    · funext j
      unfold doneOf
      rw [Array.getD_eq_getD_getElem?]
      by_cases hj : j < ops.size
      · rw [hall j hj]; simp [hj]
      · rw [Array.getElem?_eq_none (by omega)]; simp [hj]
  intro fuel
  induction fuel with
  | zero =>
    intro listed a w hl hI
    obtain ⟨hs, hsh, rfl, vs, rfl, hv⟩ := hI
    have hall : ∀ i, i < ops.size → listed[i]? = some true := fun i hi => by
      have hi' : i < listed.size := by omega
      rw [Array.getElem?_eq_getElem hi']
      cases hb : listed[i] with
      | true => rfl
      | false =>
        have := left_set listed i (by rw [Array.getElem?_eq_getElem hi', hb])
        omega
    obtain ⟨e1, e2⟩ := hfull listed hs hall
    have := hend vs (fun i hi => hv i (hall i hi))
    rw [e2, e1]
    exact this
  | succ fuel ih =>
    intro listed a w hl hI
    obtain ⟨hs, hsh, rfl, vs, rfl, hv⟩ := hI
    have hlt : ∀ j o, ops[j]? = some o → (∀ e ∈ o.after, Region.binds .any e = true → e.on < j) ∧ o.guard = none := fun j o hj => by
      have hjn : j < ops.size := (Array.getElem?_eq_some_iff.1 hj).1
      have h1 := List.all_eq_true.1 hlate j (List.mem_range.2 hjn)
      simp only [hj, Bool.and_eq_true] at h1
      obtain ⟨h2, h3⟩ := h1
      refine ⟨fun e he hbd => ?_, ?_⟩
      · have := Array.all_eq_true_iff_forall_mem.1 h2 e he
        rw [hbd] at this
        simpa using this
      · rw [if_pos hjn] at h3; simpa using h3
    have hmem : ∀ i, i ∈ Region.ready .any ops listed ↔ i < ops.size ∧ listed[i]? = some false ∧ ∃ o, ops[i]? = some o ∧ ∀ e ∈ o.after, Region.binds .any e = true → listed[e.on]? = some true := fun i => by
      unfold Region.ready
      rw [List.mem_filter, List.mem_range]
      constructor
      · rintro ⟨hi, h1⟩
        simp only [Bool.and_eq_true, Bool.not_eq_true'] at h1
        obtain ⟨h2, h3⟩ := h1
        have hi' : i < listed.size := by omega
        refine ⟨hi, ?_, ops[i], Array.getElem?_eq_getElem hi, fun e he hbd => ?_⟩
        · rw [Array.getElem?_eq_getElem hi']
          rw [Array.getD_eq_getD_getElem?, Array.getElem?_eq_getElem hi'] at h2
          simpa using h2
        · rw [Array.getElem?_eq_getElem hi] at h3
          simp only [Option.map_some, Option.getD_some] at h3
          have h4 := Array.all_eq_true_iff_forall_mem.1 h3 e he
          rw [hbd] at h4
          simp only [Bool.not_true, Bool.false_or] at h4
          rw [Array.getD_eq_getD_getElem?] at h4
          cases hq : listed[e.on]? with
          | none => rw [hq] at h4; cases h4
          | some b => rw [hq] at h4; simp at h4; rw [h4]
      · rintro ⟨hi, h1, o, ho, h2⟩
        refine ⟨hi, ?_⟩
        rw [Array.getD_eq_getD_getElem?, h1, ho]
        simp only [Option.getD_some, Bool.not_false, Bool.true_and, Option.map_some]
        rw [Array.all_eq_true_iff_forall_mem]
        intro e he
        cases hbd : Region.binds .any e with
        | false => rfl
        | true => rw [Array.getD_eq_getD_getElem?, h2 e he hbd]; rfl
    refine ⟨fun hr => ?_, fun i hi => ?_⟩
    · exfalso
      have hex : ∀ k, k ≤ ops.size → ∀ i, i < k → listed[i]? = some true := fun k => by
        induction k with
        | zero => intro _ i hi; omega
        | succ k ihk =>
          intro hk i hi
          by_cases hik : i < k
          · exact ihk (by omega) i hik
          · obtain rfl : i = k := by omega
            have hi' : i < listed.size := by omega
            cases hbv : listed[i] with
            | true => rw [Array.getElem?_eq_getElem hi', hbv]
            | false =>
              have hio : i < ops.size := by omega
              have : i ∈ Region.ready .any ops listed := (hmem i).2 ⟨hio, by rw [Array.getElem?_eq_getElem hi', hbv], ops[i], Array.getElem?_eq_getElem hio, fun e he hbd => ihk (by omega) _ ((hlt i _ (Array.getElem?_eq_getElem hio)).1 e he hbd)⟩
              rw [hr] at this
              cases this
      obtain ⟨e1, _⟩ := hfull listed hs (hex ops.size (Nat.le_refl _))
      have h0 : left listed = 0 := by
        rw [e1]
        simp only [left, listedTo, List.length_eq_zero_iff, List.filter_eq_nil_iff]
        intro b hb
        obtain ⟨i, hi, rfl⟩ := List.mem_map.1 hb
        simp; exact List.mem_range.1 hi
      omega
    · obtain ⟨hin, hif, o, ho, hpre⟩ := (hmem i).1 hi
      have hg := (hlt i o ho).2
      have hfi : doneOf listed i = false := by unfold doneOf; rw [Array.getD_eq_getD_getElem?, hif]; rfl
      have hop' := hop i hin o ho (doneOf listed) vs hfi (fun j oj hj hw => by
          cases hd : doneOf listed j with
          | false => rfl
          | true =>
            exfalso
            have hlj : listed[j]? = some true := by
              unfold doneOf at hd; rw [Array.getD_eq_getD_getElem?] at hd
              cases hq : listed[j]? with
              | none => rw [hq] at hd; cases hd
              | some b => rw [hq] at hd; simp at hd; rw [hd]
            have := waitsT_listed hsh _ oj i (hsh j oj hj hlj) hw
            rw [hif] at this; cases this)
        (fun j hj hw => hv j (by
          unfold waitsFor at hw
          obtain ⟨e, he, h2⟩ := List.any_eq_true.1 hw
          have he := Array.mem_toList_iff.1 he
          simp only [Bool.and_eq_true, beq_iff_eq] at h2
          rw [← h2.2]
          exact hpre e he h2.1))
        (fun j hw => by
          have := waitsT_listed hsh _ o j hpre hw
          unfold doneOf; rw [Array.getD_eq_getD_getElem?, this]; rfl)
      have hwant : Region.wanted o (yielded ops (canon ops a0 vs ops.size).tmps) = true := by simp [Region.wanted, hg]
      unfold wpOp
      simp only [ho, hwant, if_true]
      refine .inl (Oper.wp_mono (fun a' w' h => ?_) hop')
      obtain ⟨v, rfl, rfl, rfl⟩ := h
      have hl2 := left_set listed i hif
      have hod : (ops[i]?).bind (·.dst) = o.dst := by rw [ho]; rfl
      refine ih _ _ _ (by omega) ⟨by simpa using hs, fun j oj hoj hlj e he hbd => ?_, ?_, fun j => if j = i then V i else vs j, by rw [← hod]; exact canon_put vs i (V i) _ hin hdst, fun j hl => ?_⟩
      · have hgo : listed[e.on]? = some true := by
          by_cases hji : j = i
          · subst hji
            obtain rfl := Option.some.inj (ho.symm.trans hoj)
            exact hpre e he hbd
          · rw [Array.getElem?_setIfInBounds_ne (fun h => hji h.symm)] at hlj
            exact hsh j oj hoj hlj e he hbd
        rw [Array.getElem?_setIfInBounds_ne (fun h => by rw [h] at hif; rw [hgo] at hif; cases hif)]
        exact hgo
      · congr 1
        funext j
        unfold doneOf
        rw [Array.getD_eq_getD_getElem?, Array.getD_eq_getD_getElem?, Array.getElem?_setIfInBounds]
        by_cases hji : j = i
        · subst hji; rw [if_pos rfl, if_pos rfl, if_pos (by omega)]; rfl
        · rw [if_neg hji, if_neg (fun h => hji h.symm)]
      · show (if j = i then V i else vs j) = V j
        by_cases hji : j = i
        · rw [if_pos hji, hji]
        · rw [if_neg hji]
          rw [Array.getElem?_setIfInBounds_ne (fun h => hji h.symm)] at hl
          exact hv j hl

/-- THE RULE. -/
theorem wp_region_growS {id : Nat} {a0 : Act} {w0 : World} (hmix : P.follows .mixedOrders = true) (m : Nat) (hm : ops.size = m) (V : Nat → Value) (St : (Nat → Bool) → World) (h0 : w0.drew = St (fun _ => false)) (hdst : apartDst ops m) (hlate : lateB ops m = true)
    (hop : ∀ i, i < m → ∀ o, ops[i]? = some o → ∀ (f : Nat → Bool) vs, f i = false → (∀ j oj, ops[j]? = some oj → waitsT ops m oj i = true → f j = false) →
      (∀ j, j < m → waitsFor o j = true → vs j = V j) → (∀ j, waitsT ops m o j = true → f j = true) →
      o.wp P (canon ops a0 vs m) (St f) (fun a' w' => ∃ v, a' = (canon ops a0 vs m).put o.dst v ∧ v = V i ∧ w' = St (fun j => if j = i then true else f j)) Q)
    (hend : ∀ vs, (∀ i, i < m → vs i = V i) → wpAny P .any ops Q 0 (listedTo m m) (canon ops a0 vs m) (St (fun j => decide (j < m)))) : (Code.region id ops true).wp P Q a0 w0 := by
  subst hm
  refine wp_region_any hmix ?_
  have hleft : ∀ n, left (Array.replicate n false) = n := fun n => by simp [left]
  refine wpAny_growS V St hdst hlate hop hend _ _ _ _ (hleft _) ⟨by simp, fun i o _ h => by (rw [Array.getElem?_replicate] at h; split at h <;> simp at h), ?_, _, (canon_self ops a0 ops.size).symm, fun i h => ?_⟩
  · refine h0.trans ?_
    congr 1
    funext j
    unfold doneOf
    rw [Array.getD_eq_getD_getElem?, Array.getElem?_replicate]
    split <;> rfl
  · rw [Array.getElem?_replicate] at h; split at h <;> simp at h

end
end Go.Proofs.YtgjocdnpephcgaaGreatDoor
