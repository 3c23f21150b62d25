/- The rule for a region of open order, for whatever frame: what an operation leaves stays so under the frame's own relation. No program in sight. -/
import Derived.Test.YtdppnlomhlnbkaaDoorGrow
namespace Go.Proofs.YtdppnlomhlnbkaaDoor
open Go.RowKit
section
variable {P : Program} {ops : Array Oper} {Q : Exit → Act → World → Prop} {md : Region.Mode}

/-- What is known behind some of the first m operations. -/
structure GrowIR (Rl : World → World → Prop) (ops : Array Oper) (a0 : Act) (w0 : World) (m : Nat) (R : Nat → Value → World → Prop) (D : Nat → Nat → Value → Value → Prop) (listed : Array Bool) (a : Act) (w : World) : Prop where
  size : listed.size = ops.size
  late : ∀ j, m ≤ j → j < ops.size → listed[j]? = some false
  shut : ∀ (i : Nat) (o : Oper), ops[i]? = some o → listed[i]? = some true → ∀ e ∈ o.after, Region.binds .any e = true → listed[e.on]? = some true
  bel : Rl w0 w
  vals : ∃ vs : Nat → Value, a = canon ops a0 vs m ∧ (∀ i, i < m → listed[i]? = some true → R i (vs i) w) ∧
    ∀ i j, i < m → j < m → i ≠ j → listed[i]? = some true → listed[j]? = some true → D i j (vs i) (vs j) ∨ D j i (vs j) (vs i)

theorem wpAny_growR (Rl : World → World → Prop) (htr : ∀ a b c, Rl a b → Rl b c → Rl a c) {a0 : Act} {w0 : World} (m : Nat) (hmn : m ≤ ops.size) (hdst : apartDst ops m) (hlate : lateB ops m = true)
    (R : Nat → Value → World → Prop) (D : Nat → Nat → Value → Value → Prop) (hR : ∀ i v w w', R i v w → Rl w w' → R i v w')
    (hop : ∀ i, i < m → ∀ o, ops[i]? = some o → ∀ vs w, Rl w0 w → (∀ j, j < m → waitsFor o j = true → R j (vs j) w) →
      o.wp P (canon ops a0 vs m) w (fun a' w' => ∃ v, a' = (canon ops a0 vs m).put o.dst v ∧ R i v w' ∧ Rl w w' ∧ ∀ j, j < m → R j (vs j) w → D i j v (vs j)) Q)
    (hend : ∀ vs w, Rl w0 w → (∀ i, i < m → R i (vs i) w) → (∀ i j, i < m → j < m → i ≠ j → D i j (vs i) (vs j) ∨ D j i (vs j) (vs i)) →
      wpAny P .any ops Q (ops.size - m) (listedTo ops.size m) (canon ops a0 vs m) w) :
    ∀ (fuel : Nat) (listed : Array Bool) (a : Act) (w : World), left listed = fuel → GrowIR Rl ops a0 w0 m R D listed a w → wpAny P .any ops Q fuel listed a w := by
  intro fuel
  induction fuel with
  | zero =>
    intro listed a w hl hI
    obtain ⟨hs, hla, hsh, hb, vs, rfl, hv, hd⟩ := hI
    have hall : ∀ i, i < ops.size → listed[i]? = some true := fun i hi => by
      have hi' : i < listed.size := by omega
      rw [Array.getElem?_eq_getElem hi']
      cases hb : listed[i] with
      | true => rfl
      | false =>
        have := left_set listed i (by rw [Array.getElem?_eq_getElem hi', hb])
        omega
    have hm : m = ops.size := by
      rcases Nat.lt_or_ge m ops.size with h | h
      · have h1 := hla m (Nat.le_refl _) h
        rw [hall m h] at h1; cases h1
      · omega
    have he := hend vs w hb (fun i hi => hv i hi (hall i (by omega))) (fun i j hi hj hne => hd i j hi hj hne (hall i (by omega)) (hall j (by omega)))
    have e : listedTo ops.size m = listed := by
      apply Array.ext
      · simp [listedTo, hs]
      · intro i h1 h2
        have := hall i (by omega)
        rw [Array.getElem?_eq_getElem h2] at this
        simp only [listedTo, List.getElem_toArray, List.getElem_map, List.getElem_range]
        rw [Option.some.inj this]
        exact decide_eq_true (by omega)
    rw [e, hm, Nat.sub_self] at he
    rwa [hm]
  | succ fuel ih =>
    intro listed a w hl hI
    by_cases hall : ∀ i, i < m → listed[i]? = some true
    · obtain ⟨hs, hla, hsh, hb, vs, rfl, hv, hd⟩ := hI
      have he := hend vs w hb (fun i hi => hv i hi (hall i hi)) (fun i j hi hj hne => hd i j hi hj hne (hall i hi) (hall j hj))
      have e : listedTo ops.size m = listed := by
        apply Array.ext
        · simp [listedTo, hs]
        · intro i h1 h2
          simp only [listedTo, List.getElem_toArray, List.getElem_map, List.getElem_range]
          by_cases hi : i < m
          · have := hall i hi
            rw [Array.getElem?_eq_getElem h2] at this
            rw [Option.some.inj this]
            exact decide_eq_true hi
          · have := hla i (by omega) (by omega)
            rw [Array.getElem?_eq_getElem h2] at this
            rw [Option.some.inj this]
            exact decide_eq_false hi
      have hf : ops.size - m = fuel + 1 := by
        rw [← hl, ← e]
        simp only [left, listedTo]
        have hlen : ∀ n, m ≤ n → (((List.range n).map fun i => decide (i < m)).filter (!·)).length = n - m := by
          intro n
          induction n with
          | zero => intro h; simp
          | succ n ihn =>
            intro h
            rw [List.range_succ, List.map_append, List.filter_append, List.length_append]
            by_cases hn : m ≤ n
            · rw [ihn hn]; simp [show ¬ n < m by omega]; omega
            · have hmn' : m = n + 1 := by omega
              have hz : ((List.range n).map fun i => decide (i < m)).filter (!·) = [] := by
                rw [List.filter_eq_nil_iff]
                intro b hb
                obtain ⟨i, hi, rfl⟩ := List.mem_map.1 hb
                simp; have := List.mem_range.1 hi; omega
              rw [hz]; simp [show n < m by omega]; omega
        exact (hlen _ hmn).symm
      rw [e, hf] at he
      exact he
    · obtain ⟨hs, hla, hsh, hb, vs, rfl, hv, hd⟩ := hI
      have hlt : ∀ j o, ops[j]? = some o → (∀ e ∈ o.after, Region.binds .any e = true → e.on < j) ∧ (j < m → o.guard = none) ∧ (m ≤ j → ∀ i, i < m → waitsT ops ops.size o i = true) := fun j o hj => by
        have hjn : j < ops.size := (Array.getElem?_eq_some_iff.1 hj).1
        have h1 := List.all_eq_true.1 hlate j (List.mem_range.2 hjn)
        simp only [hj, Bool.and_eq_true] at h1
        obtain ⟨h2, h3⟩ := h1
        refine ⟨fun e he hbd => ?_, fun hlt => ?_, fun hge i hi => ?_⟩
        · have := Array.all_eq_true_iff_forall_mem.1 h2 e he
          rw [hbd] at this
          simpa using this
        · rw [if_pos hlt] at h3; simpa using h3
        · rw [if_neg (by omega)] at h3
          exact List.all_eq_true.1 h3 i (List.mem_range.2 hi)
      have hmem : ∀ i, i ∈ Region.ready .any ops listed ↔ i < ops.size ∧ listed[i]? = some false ∧ ∃ o, ops[i]? = some o ∧ ∀ e ∈ o.after, Region.binds .any e = true → listed[e.on]? = some true := fun i => by
        unfold Region.ready
        rw [List.mem_filter, List.mem_range]
        constructor
        · rintro ⟨hi, h1⟩
          simp only [Bool.and_eq_true, Bool.not_eq_true'] at h1
          obtain ⟨h2, h3⟩ := h1
          have hi' : i < listed.size := by omega
          refine ⟨hi, ?_, ops[i], Array.getElem?_eq_getElem hi, fun e he hbd => ?_⟩
          · rw [Array.getElem?_eq_getElem hi']
            rw [Array.getD_eq_getD_getElem?, Array.getElem?_eq_getElem hi'] at h2
            simpa using h2
          · rw [Array.getElem?_eq_getElem hi] at h3
            simp only [Option.map_some, Option.getD_some] at h3
            have h4 := Array.all_eq_true_iff_forall_mem.1 h3 e he
            rw [hbd] at h4
            simp only [Bool.not_true, Bool.false_or] at h4
            rw [Array.getD_eq_getD_getElem?] at h4
            cases hq : listed[e.on]? with
            | none => rw [hq] at h4; cases h4
            | some b => rw [hq] at h4; simp at h4; rw [h4]
        · rintro ⟨hi, h1, o, ho, h2⟩
          refine ⟨hi, ?_⟩
          rw [Array.getD_eq_getD_getElem?, h1, ho]
          simp only [Option.getD_some, Bool.not_false, Bool.true_and, Option.map_some]
          rw [Array.all_eq_true_iff_forall_mem]
          intro e he
          cases hbd : Region.binds .any e with
          | false => rfl
          | true => rw [Array.getD_eq_getD_getElem?, h2 e he hbd]; rfl
      refine ⟨fun hr => ?_, fun i hi => ?_⟩
      · -- something of the first m is still to come, and yet nothing may: the least such
        exfalso
        have hex : ∀ k, k ≤ m → ∀ i, i < k → listed[i]? = some true := fun k => by
          induction k with
          | zero => intro _ i hi; omega
          | succ k ihk =>
            intro hk i hi
            by_cases hik : i < k
            · exact ihk (by omega) i hik
            · obtain rfl : i = k := by omega
              have hi' : i < listed.size := by omega
              cases hbv : listed[i] with
              | true => rw [Array.getElem?_eq_getElem hi', hbv]
              | false =>
                have hio : i < ops.size := by omega
                have : i ∈ Region.ready .any ops listed := (hmem i).2 ⟨hio, by rw [Array.getElem?_eq_getElem hi', hbv], ops[i], Array.getElem?_eq_getElem hio, fun e he hbd => ihk (by omega) _ ((hlt i _ (Array.getElem?_eq_getElem hio)).1 e he hbd)⟩
                rw [hr] at this
                cases this
        exact hall (hex m (Nat.le_refl _))
      · obtain ⟨hin, hif, o, ho, hpre⟩ := (hmem i).1 hi
        have him : i < m := by
          rcases Nat.lt_or_ge i m with h | h
          · exact h
          · exfalso
            refine hall fun j hj => ?_
            exact waitsT_listed hsh _ o j hpre ((hlt i o ho).2.2 h j hj)
        have hg := (hlt i o ho).2.1 him
        have hop' := hop i him o ho vs w hb (fun j hj hw => hv j hj (by
          unfold waitsFor at hw
          obtain ⟨e, he, h2⟩ := List.any_eq_true.1 hw
          have he := Array.mem_toList_iff.1 he
          simp only [Bool.and_eq_true, beq_iff_eq] at h2
          rw [← h2.2]
          exact hpre e he h2.1))
        have hwant : Region.wanted o (yielded ops (canon ops a0 vs m).tmps) = true := by simp [Region.wanted, hg]
        unfold wpOp
        simp only [ho, hwant, if_true]
        refine .inl (Oper.wp_mono (fun a' w' h => ?_) hop')
        obtain ⟨v, rfl, hRv, hbel, hDv⟩ := h
        have hl2 := left_set listed i hif
        have hod : (ops[i]?).bind (·.dst) = o.dst := by rw [ho]; rfl
        refine ih _ _ w' (by omega) ⟨by simpa using hs, fun j h1 h2 => ?_, fun j oj hoj hlj e he hbd => ?_, htr _ _ _ hb hbel, fun j => if j = i then v else vs j, by rw [← hod]; exact canon_put vs i v m him hdst, fun j hj hl => ?_, fun j k hj hk hne hlj hlk => ?_⟩
        · rw [Array.getElem?_setIfInBounds_ne (by omega)]; exact hla j h1 h2
        · have hgo : listed[e.on]? = some true := by
            by_cases hji : j = i
            · subst hji
              obtain rfl := Option.some.inj (ho.symm.trans hoj)
              exact hpre e he hbd
            · rw [Array.getElem?_setIfInBounds_ne (fun h => hji h.symm)] at hlj
              exact hsh j oj hoj hlj e he hbd
          rw [Array.getElem?_setIfInBounds_ne (fun h => by rw [h] at hif; rw [hgo] at hif; cases hif)]
          exact hgo
        · show R j (if j = i then v else vs j) w'
          by_cases hji : j = i
          · subst hji; rw [if_pos rfl]; exact hRv
          · rw [if_neg hji]
            rw [Array.getElem?_setIfInBounds_ne (fun h => hji h.symm)] at hl
            exact hR j _ w w' (hv j hj hl) hbel
        · show D j k (if j = i then v else vs j) (if k = i then v else vs k) ∨ D k j (if k = i then v else vs k) (if j = i then v else vs j)
          by_cases hji : j = i
          · subst hji
            rw [Array.getElem?_setIfInBounds_ne hne] at hlk
            rw [if_pos rfl, if_neg (fun h => hne h.symm)]
            exact .inl (hDv k hk (hv k hk hlk))
          · rw [Array.getElem?_setIfInBounds_ne (fun h => hji h.symm)] at hlj
            by_cases hki : k = i
            · subst hki
              rw [if_pos rfl, if_neg hji]
              exact .inr (hDv j hj (hv j hj hlj))
            · rw [Array.getElem?_setIfInBounds_ne (fun h => hki h.symm)] at hlk
              rw [if_neg hji, if_neg hki]
              exact hd j k hj hk hne hlj hlk

/-- THE RULE: the first m operations in whatever order, then the rest. -/
theorem wp_region_growR (Rl : World → World → Prop) (hrf : ∀ w, Rl w w) (htr : ∀ a b c, Rl a b → Rl b c → Rl a c) {id : Nat} {a0 : Act} {w0 : World} (hmix : P.follows .mixedOrders = true) (m : Nat) (hmn : m ≤ ops.size) (hdst : apartDst ops m) (hlate : lateB ops m = true)
    (R : Nat → Value → World → Prop) (D : Nat → Nat → Value → Value → Prop) (hR : ∀ i v w w', R i v w → Rl w w' → R i v w')
    (hop : ∀ i, i < m → ∀ o, ops[i]? = some o → ∀ vs w, Rl w0.drew w → (∀ j, j < m → waitsFor o j = true → R j (vs j) w) →
      o.wp P (canon ops a0 vs m) w (fun a' w' => ∃ v, a' = (canon ops a0 vs m).put o.dst v ∧ R i v w' ∧ Rl w w' ∧ ∀ j, j < m → R j (vs j) w → D i j v (vs j)) Q)
    (hend : ∀ vs w, Rl w0.drew w → (∀ i, i < m → R i (vs i) w) → (∀ i j, i < m → j < m → i ≠ j → D i j (vs i) (vs j) ∨ D j i (vs j) (vs i)) →
      wpAny P .any ops Q (ops.size - m) (listedTo ops.size m) (canon ops a0 vs m) w) : (Code.region id ops true).wp P Q a0 w0 := by
  refine wp_region_any hmix ?_
  have hleft : ∀ n, left (Array.replicate n false) = n := fun n => by simp [left]
  refine wpAny_growR Rl htr (w0 := w0.drew) m hmn hdst hlate R D hR hop hend _ _ _ _ (hleft _) ⟨by simp, fun j _ h => by simp [h], fun i o _ h => by (rw [Array.getElem?_replicate] at h; split at h <;> simp at h), hrf _, _, (canon_self ops a0 m).symm, fun i hi h => ?_, fun i j hi _ _ h => ?_⟩
  · rw [Array.getElem?_replicate] at h; split at h <;> simp at h
  · rw [Array.getElem?_replicate] at h; split at h <;> simp at h

end

/-- Block r goes from C0 to C and no further; what lies below it stays. -/
def OneStep (r : Nat) (C0 C : Obj) (w w' : World) : Prop :=
  Below r w w' ∧ (w.heap[r]? = some C → w'.heap[r]? = some C) ∧ (w.heap[r]? = some C0 → w'.heap[r]? = some C0 ∨ w'.heap[r]? = some C)
theorem OneStep.refl (r : Nat) (C0 C : Obj) (w : World) : OneStep r C0 C w w := ⟨Below.refl _ _, id, .inl⟩
theorem OneStep.trans {r : Nat} {C0 C : Obj} {a b c : World} (h : OneStep r C0 C a b) (k : OneStep r C0 C b c) : OneStep r C0 C a c :=
  ⟨h.1.trans k.1, fun x => k.2.1 (h.2.1 x), fun x => (h.2.2 x).elim k.2.2 (fun y => .inr (k.2.1 y))⟩
theorem OneStep.of_below {r : Nat} {C0 C : Obj} {w w' : World} (h : Below w.heap.size w w') (hr : r < w.heap.size) : OneStep r C0 C w w' :=
  ⟨h.mono (by omega), fun x => (h.block r hr).trans x, fun x => .inl ((h.block r hr).trans x)⟩

end Go.Proofs.YtdppnlomhlnbkaaDoor
