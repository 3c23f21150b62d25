/- The rule for a region of open order whose operations may bear guards. No program in sight. -/
import Derived.Test.YtdppnlomhlnbkaaDoorGrowR
namespace Go.Proofs.YtdppnlomhlnbkaaDoor
open Go.RowKit
section
variable {P : Program} {ops : Array Oper} {Q : Exit → Act → World → Prop} {md : Region.Mode}

/-- Each operation from m on waits for each of the first m. -/
def lateG (ops : Array Oper) (m : Nat) : Bool :=
  (List.range ops.size).all fun j => match ops[j]? with
    | some o => (o.after.all fun e => !Region.binds .any e || decide (e.on < j)) && (decide (j < m) || (List.range m).all fun i => waitsT ops ops.size o i)
    | none => true
/-- What is asked of an operation: where it is wanted its run; where not, that the slot may stay empty. -/
def HopG (P : Program) (ops : Array Oper) (Q : Exit → Act → World → Prop) (Rl : World → World → Prop) (R : Nat → Value → World → Prop) (i : Nat) (o : Oper) (a : Act) (w : World) : Prop :=
  (Region.wanted o (yielded ops a.tmps) = true ∧ o.wp P a w (fun a' w' => ∃ v, a' = a.put o.dst v ∧ R i v w' ∧ Rl w w') Q) ∨ (Region.wanted o (yielded ops a.tmps) = false ∧ R i undef w)

theorem wpAny_growG (Rl : World → World → Prop) (hrf : ∀ w, Rl w w) (htr : ∀ a b c, Rl a b → Rl b c → Rl a c) {a0 : Act} {w0 : World} (m : Nat) (hmn : m ≤ ops.size) (hdst : apartDst ops m) (hlate : lateG ops m = true)
    (R : Nat → Value → World → Prop) (hR : ∀ i v w w', R i v w → Rl w w' → R i v w')
    (hop : ∀ i, i < m → ∀ o, ops[i]? = some o → ∀ vs w, Rl w0 w → (∀ j, j < m → waitsFor o j = true → R j (vs j) w) →
      HopG P ops Q Rl R i o (canon ops a0 vs m) w)
    (hend : ∀ vs w, Rl w0 w → (∀ i, i < m → R i (vs i) w) →
      wpAny P .any ops Q (ops.size - m) (listedTo ops.size m) (canon ops a0 vs m) w) :
    ∀ (fuel : Nat) (listed : Array Bool) (a : Act) (w : World), left listed = fuel → GrowIR Rl ops a0 w0 m R (fun _ _ _ _ => True) listed a w → wpAny P .any ops Q fuel listed a w := by
  intro fuel
  induction fuel with
  | zero =>
    intro listed a w hl hI
    obtain ⟨hs, hla, hsh, hb, vs, rfl, hv, hd⟩ := hI
    have hall : ∀ i, i < ops.size → listed[i]? = some true := fun i hi => by
      have hi' : i < listed.size := by omega
      rw [Array.getElem?_eq_getElem hi']
      cases hb : listed[i] with
      | true => rfl
      | false =>
        have := left_set listed i (by rw [Array.getElem?_eq_getElem hi', hb])
        omega
    have hm : m = ops.size := by
      rcases Nat.lt_or_ge m ops.size with h | h
      · have h1 := hla m (Nat.le_refl _) h
        rw [hall m h] at h1; cases h1
      · omega
    have he := hend vs w hb (fun i hi => hv i hi (hall i (by omega)))
    have e : listedTo ops.size m = listed := by
      apply Array.ext
      · simp [listedTo, hs]
      · intro i h1 h2
        have := hall i (by omega)
        rw [Array.getElem?_eq_getElem h2] at this
        simp only [listedTo, List.getElem_toArray, List.getElem_map, List.getElem_range]
        rw [Option.some.inj this]
        exact decide_eq_true (by omega)
    rw [e, hm, Nat.sub_self] at he
    rwa [hm]
  | succ fuel ih =>
    intro listed a w hl hI
    by_cases hall : ∀ i, i < m → listed[i]? = some true
    · obtain ⟨hs, hla, hsh, hb, vs, rfl, hv, hd⟩ := hI
      have he := hend vs w hb (fun i hi => hv i hi (hall i hi))
      have e : listedTo ops.size m = listed := by
        apply Array.ext
        · simp [listedTo, hs]
        · intro i h1 h2
          simp only [listedTo, List.getElem_toArray, List.getElem_map, List.getElem_range]
          by_cases hi : i < m
          · have := hall i hi
            rw [Array.getElem?_eq_getElem h2] at this
            rw [Option.some.inj this]
            exact decide_eq_true hi
          · have := hla i (by omega) (by omega)
            rw [Array.getElem?_eq_getElem h2] at this
            rw [Option.some.inj this]
            exact decide_eq_false hi
      have hf : ops.size - m = fuel + 1 := by
        rw [← hl, ← e]
        simp only [left, listedTo]
        have hlen : ∀ n, m ≤ n → (((List.range n).map fun i => decide (i < m)).filter (!·)).length = n - m := by
          intro n
          induction n with
          | zero => intro h; simp
          | succ n ihn =>
            intro h
            rw [List.range_succ, List.map_append, List.filter_append, List.length_append]
            by_cases hn : m ≤ n
            · rw [ihn hn]; simp [show ¬ n < m by omega]; omega
            · have hmn' : m = n + 1 := by omega
              have hz : ((List.range n).map fun i => decide (i < m)).filter (!·) = [] := by
                rw [List.filter_eq_nil_iff]
                intro b hb
                obtain ⟨i, hi, rfl⟩ := List.mem_map.1 hb
                simp; have := List.mem_range.1 hi; omega
              rw [hz]; simp [show n < m by omega]; omega
        exact (hlen _ hmn).symm
      rw [e, hf] at he
      exact he
    · obtain ⟨hs, hla, hsh, hb, vs, rfl, hv, hd⟩ := hI
      have hlt : ∀ j o, ops[j]? = some o → (∀ e ∈ o.after, Region.binds .any e = true → e.on < j) ∧ (m ≤ j → ∀ i, i < m → waitsT ops ops.size o i = true) := fun j o hj => by
        have hjn : j < ops.size := (Array.getElem?_eq_some_iff.1 hj).1
        have h1 := List.all_eq_true.1 hlate j (List.mem_range.2 hjn)
        simp only [hj, Bool.and_eq_true] at h1
        obtain ⟨h2, h3⟩ := h1
        refine ⟨fun e he hbd => ?_, fun hge i hi => ?_⟩
        · have := Array.all_eq_true_iff_forall_mem.1 h2 e he
          rw [hbd] at this
          simpa using this
        · rw [decide_eq_false (by omega), Bool.false_or] at h3
          exact List.all_eq_true.1 h3 i (List.mem_range.2 hi)
      have hmem : ∀ i, i ∈ Region.ready .any ops listed ↔ i < ops.size ∧ listed[i]? = some false ∧ ∃ o, ops[i]? = some o ∧ ∀ e ∈ o.after, Region.binds .any e = true → listed[e.on]? = some true := fun i => by
        unfold Region.ready
        rw [List.mem_filter, List.mem_range]
        constructor
        · rintro ⟨hi, h1⟩
          simp only [Bool.and_eq_true, Bool.not_eq_true'] at h1
          obtain ⟨h2, h3⟩ := h1
          have hi' : i < listed.size := by omega
          refine ⟨hi, ?_, ops[i], Array.getElem?_eq_getElem hi, fun e he hbd => ?_⟩
          · rw [Array.getElem?_eq_getElem hi']
            rw [Array.getD_eq_getD_getElem?, Array.getElem?_eq_getElem hi'] at h2
            simpa using h2
          · rw [Array.getElem?_eq_getElem hi] at h3
            simp only [Option.map_some, Option.getD_some] at h3
            have h4 := Array.all_eq_true_iff_forall_mem.1 h3 e he
            rw [hbd] at h4
            simp only [Bool.not_true, Bool.false_or] at h4
            rw [Array.getD_eq_getD_getElem?] at h4
            cases hq : listed[e.on]? with
            | none => rw [hq] at h4; cases h4
            | some b => rw [hq] at h4; simp at h4; rw [h4]
        · rintro ⟨hi, h1, o, ho, h2⟩
          refine ⟨hi, ?_⟩
          rw [Array.getD_eq_getD_getElem?, h1, ho]
          simp only [Option.getD_some, Bool.not_false, Bool.true_and, Option.map_some]
          rw [Array.all_eq_true_iff_forall_mem]
          intro e he
          cases hbd : Region.binds .any e with
          | false => rfl
          | true => rw [Array.getD_eq_getD_getElem?, h2 e he hbd]; rfl
      refine ⟨fun hr => ?_, fun i hi => ?_⟩
      · -- something of the first m is still to come, and yet nothing may: the least such
        exfalso
        have hex : ∀ k, k ≤ m → ∀ i, i < k → listed[i]? = some true := fun k => by
          induction k with
          | zero => intro _ i hi; omega
          | succ k ihk =>
            intro hk i hi
            by_cases hik : i < k
            · exact ihk (by omega) i hik
            · obtain rfl : i = k := by omega
              have hi' : i < listed.size := by omega
              cases hbv : listed[i] with
              | true => rw [Array.getElem?_eq_getElem hi', hbv]
              | false =>
                have hio : i < ops.size := by omega
                have : i ∈ Region.ready .any ops listed := (hmem i).2 ⟨hio, by rw [Array.getElem?_eq_getElem hi', hbv], ops[i], Array.getElem?_eq_getElem hio, fun e he hbd => ihk (by omega) _ ((hlt i _ (Array.getElem?_eq_getElem hio)).1 e he hbd)⟩
                rw [hr] at this
                cases this
        exact hall (hex m (Nat.le_refl _))
      · obtain ⟨hin, hif, o, ho, hpre⟩ := (hmem i).1 hi
        have him : i < m := by
          rcases Nat.lt_or_ge i m with h | h
          · exact h
          · exfalso
            refine hall fun j hj => ?_
            exact waitsT_listed hsh _ o j hpre ((hlt i o ho).2 h j hj)
        have hop' := hop i him o ho vs w hb (fun j hj hw => hv j hj (by
          unfold waitsFor at hw
          obtain ⟨e, he, h2⟩ := List.any_eq_true.1 hw
          have he := Array.mem_toList_iff.1 he
          simp only [Bool.and_eq_true, beq_iff_eq] at h2
          rw [← h2.2]
          exact hpre e he h2.1))
        have fin : ∀ v w', R i v w' → Rl w w' → wpAny P .any ops Q fuel (listed.setIfInBounds i true) ((canon ops a0 vs m).put o.dst v) w' := fun v w' hRv hbel => by
          have hl2 := left_set listed i hif
          have hod : (ops[i]?).bind (·.dst) = o.dst := by rw [ho]; rfl
          refine ih _ _ w' (by omega) ⟨by simpa using hs, fun j h1 h2 => ?_, fun j oj hoj hlj e he hbd => ?_, htr _ _ _ hb hbel, fun j => if j = i then v else vs j, by rw [← hod]; exact canon_put vs i v m him hdst, fun j hj hl => ?_, fun j k hj hk hne hlj hlk => ?_⟩
          · rw [Array.getElem?_setIfInBounds_ne (by omega)]; exact hla j h1 h2
          · have hgo : listed[e.on]? = some true := by
              by_cases hji : j = i
              · subst hji
                obtain rfl := Option.some.inj (ho.symm.trans hoj)
                exact hpre e he hbd
              · rw [Array.getElem?_setIfInBounds_ne (fun h => hji h.symm)] at hlj
                exact hsh j oj hoj hlj e he hbd
            rw [Array.getElem?_setIfInBounds_ne (fun h => by rw [h] at hif; rw [hgo] at hif; cases hif)]
            exact hgo
          · show R j (if j = i then v else vs j) w'
            by_cases hji : j = i
            · subst hji; rw [if_pos rfl]; exact hRv
            · rw [if_neg hji]
              rw [Array.getElem?_setIfInBounds_ne (fun h => hji h.symm)] at hl
              exact hR j _ w w' (hv j hj hl) hbel
          · exact .inl trivial
        unfold wpOp
        simp only [ho]
        rcases hop' with ⟨hwant, h⟩ | ⟨hwant, h⟩
        · rw [if_pos hwant]
          refine .inl (Oper.wp_mono (fun a' w' h => ?_) h)
          obtain ⟨v, rfl, hRv, hbel⟩ := h
          exact fin v w' hRv hbel
        · rw [if_neg (by rw [hwant]; decide)]
          exact fin undef w h (hrf w)

/-- THE RULE: the first m operations in whatever order, then the rest. -/
theorem wp_region_growG (Rl : World → World → Prop) (hrf : ∀ w, Rl w w) (htr : ∀ a b c, Rl a b → Rl b c → Rl a c) {id : Nat} {a0 : Act} {w0 : World} (hmix : P.follows .mixedOrders = true) (m : Nat) (hmn : m ≤ ops.size) (hdst : apartDst ops m) (hlate : lateG ops m = true)
    (R : Nat → Value → World → Prop) (hR : ∀ i v w w', R i v w → Rl w w' → R i v w')
    (hop : ∀ i, i < m → ∀ o, ops[i]? = some o → ∀ vs w, Rl w0.drew w → (∀ j, j < m → waitsFor o j = true → R j (vs j) w) →
      HopG P ops Q Rl R i o (canon ops a0 vs m) w)
    (hend : ∀ vs w, Rl w0.drew w → (∀ i, i < m → R i (vs i) w) →
      wpAny P .any ops Q (ops.size - m) (listedTo ops.size m) (canon ops a0 vs m) w) : (Code.region id ops true).wp P Q a0 w0 := by
  refine wp_region_any hmix ?_
  have hleft : ∀ n, left (Array.replicate n false) = n := fun n => by simp [left]
  refine wpAny_growG Rl hrf htr (w0 := w0.drew) m hmn hdst hlate R hR hop hend _ _ _ _ (hleft _) ⟨by simp, fun j _ h => by simp [h], fun i o _ h => by (rw [Array.getElem?_replicate] at h; split at h <;> simp at h), hrf _, _, (canon_self ops a0 m).symm, fun i hi h => ?_, fun i j hi _ _ h => ?_⟩
  · rw [Array.getElem?_replicate] at h; split at h <;> simp at h
  · rw [Array.getElem?_replicate] at h; split at h <;> simp at h

theorem canon_size (ops : Array Oper) (a0 : Act) (vs : Nat → Value) : ∀ m, (canon ops a0 vs m).tmps.size = a0.tmps.size
  | 0 => rfl
  | m + 1 => by
    rw [canon_succ]
    cases hd : (ops[m]?).bind (·.dst) with
    | none => simpa [Act.put] using canon_size ops a0 vs m
    | some d => simpa [Act.put] using canon_size ops a0 vs m
theorem canon_defers (ops : Array Oper) (a0 : Act) (vs : Nat → Value) : ∀ m, (canon ops a0 vs m).defers = a0.defers
  | 0 => rfl
  | m + 1 => by
    rw [canon_succ]
    cases hd : (ops[m]?).bind (·.dst) with
    | none => exact canon_defers ops a0 vs m
    | some d => exact canon_defers ops a0 vs m
theorem canon_get {ops : Array Oper} {a0 : Act} {vs : Nat → Value} {i d : Nat} (hi : (ops[i]?).bind (·.dst) = some d) (hs : d < a0.tmps.size) : ∀ m, i < m → apartDst ops m → (canon ops a0 vs m).tmps[d]? = some (vs i)
  | 0, h, _ => by omega
  | m + 1, h, hd => by
    rw [canon_succ]
    by_cases him : i = m
    · subst him
      rw [hi]
      simp only [Act.put]
      rw [Array.getElem?_setIfInBounds_self_of_lt (by rw [canon_size]; exact hs)]
    · have ih := canon_get (a0 := a0) (vs := vs) hi hs m (by omega) (fun i j d h1 h2 => hd i j d (by omega) (by omega))
      cases hm : (ops[m]?).bind (·.dst) with
      | none => exact ih
      | some d' =>
        simp only [Act.put]
        rw [Array.getElem?_setIfInBounds_ne (fun e => him (hd i m d (by omega) (by omega) hi (by rw [hm, e])))]
        exact ih
/-- A guard on an operation of the first m that has left what is wanted. -/
theorem wanted_of {ops : Array Oper} {a0 : Act} {vs : Nat → Value} {o : Oper} {i d m : Nat} {b : Bool} (hg : o.guard = some (i, b)) (hi : (ops[i]?).bind (·.dst) = some d) (hs : d < a0.tmps.size) (him : i < m) (ha : apartDst ops m) (hv : vs i = .bool b) :
    Region.wanted o (yielded ops (canon ops a0 vs m).tmps) = true := by
  have h := canon_get (vs := vs) hi hs m him ha
  simp [Region.wanted, hg, yielded, hi, h, hv]

end

end Go.Proofs.YtdppnlomhlnbkaaDoor
