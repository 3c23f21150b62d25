/- Some texts in one: Grow, GrowR, GrowG, Two. -/
import Derived.Orders
import Derived.Below
import Derived.Deep.RegionHeld
import Derived.Test.YtkcpgcaccgahaaaGreatDoorBase
namespace Go.Proofs.YtkcpgcaccgahaaaGreatDoor
open Go.RowKit

/-- The frame behind some of the first m operations: what operation i left in its slot is vs i. -/
def canon (ops : Array Oper) (a0 : Act) (vs : Nat → Value) (m : Nat) : Act := (List.range m).foldl (fun a i => a.put ((ops[i]?).bind (·.dst)) (vs i)) a0

theorem canon_succ (ops : Array Oper) (a0 : Act) (vs : Nat → Value) (m : Nat) : canon ops a0 vs (m + 1) = (canon ops a0 vs m).put ((ops[m]?).bind (·.dst)) (vs m) := by
  simp [canon, List.range_succ]
theorem canon_congr {ops : Array Oper} {a0 : Act} {vs us : Nat → Value} : ∀ {m : Nat}, (∀ i, i < m → vs i = us i) → canon ops a0 vs m = canon ops a0 us m
  | 0, _ => rfl
  | m + 1, h => by rw [canon_succ, canon_succ, canon_congr (fun i hi => h i (by omega)), h m (by omega)]
theorem put_put (a : Act) (x : Option Tmp) (v u : Value) : (a.put x v).put x u = a.put x u := by
  cases x with
  | none => rfl
  | some d => simp [Act.put]

/-- The slots of the first m operations are all different. -/
def apartDst (ops : Array Oper) (m : Nat) : Prop := ∀ i j d, i < m → j < m → (ops[i]?).bind (·.dst) = some d → (ops[j]?).bind (·.dst) = some d → i = j

/-- .. as a test. -/
def apartB (ops : Array Oper) (m : Nat) : Bool := (List.range m).all fun i => (List.range m).all fun j => i == j || (match (ops[i]?).bind (·.dst), (ops[j]?).bind (·.dst) with | some d, some e => d != e | _, _ => true)
theorem apart_of {ops : Array Oper} {m : Nat} (h : apartB ops m = true) : apartDst ops m := fun i j d hi hj h1 h2 => by
  have h3 := List.all_eq_true.1 (List.all_eq_true.1 h i (List.mem_range.2 hi)) j (List.mem_range.2 hj)
  rw [h1, h2] at h3
  simpa using h3

theorem canon_put {ops : Array Oper} {a0 : Act} (vs : Nat → Value) (i : Nat) (v : Value) : ∀ (m : Nat), i < m → apartDst ops m →
    (canon ops a0 vs m).put ((ops[i]?).bind (·.dst)) v = canon ops a0 (fun j => if j = i then v else vs j) m
  | 0, h, _ => by omega
  | m + 1, h, hd => by
    rw [canon_succ, canon_succ]
    by_cases hi : i = m
    · subst hi
      rw [put_put, if_pos rfl, canon_congr (us := fun j => if j = i then v else vs j) (fun j hj => (if_neg (show j ≠ i by omega)).symm)]
    · rw [Act.put_comm _ (vs m) v (fun d h1 h2 => hi (hd i m d (by omega) (by omega) h2 h1)), canon_put vs i v m (by omega) (fun i j d h1 h2 => hd i j d (by omega) (by omega)), if_neg (by omega)]

/-- How many of a list are still to come. -/
def left (listed : Array Bool) : Nat := (listed.toList.filter (!·)).length
theorem filter_set : ∀ (l : List Bool) (i : Nat), l[i]? = some false → ((l.set i true).filter (!·)).length + 1 = (l.filter (!·)).length
  | [], i, h => by simp at h
  | b :: r, 0, h => by simp at h; subst h; simp
  | b :: r, i + 1, h => by
    have := filter_set r i (by simpa using h)
    cases b <;> simp [List.set] <;> omega
theorem left_set (listed : Array Bool) (i : Nat) (h : listed[i]? = some false) : left (listed.setIfInBounds i true) + 1 = left listed := by
  unfold left
  rw [Array.toList_setIfInBounds]
  exact filter_set _ i (by simpa using h)

section
variable {P : Program} {ops : Array Oper} {Q : Exit → Act → World → Prop} {md : Region.Mode}

/-- Operation j waits for operation i. -/
def waitsFor (o : Oper) (i : Nat) : Bool := o.after.toList.any fun e => Region.binds .any e && e.on == i
/-- .. or for one that waits for it. -/
def waitsT (ops : Array Oper) : Nat → Oper → Nat → Bool
  | 0, _, _ => false
  | f + 1, o, i => o.after.toList.any fun e => Region.binds .any e && (e.on == i || match ops[e.on]? with | some o' => waitsT ops f o' i | none => false)
theorem waitsT_listed {ops : Array Oper} {listed : Array Bool} (hc : ∀ (i : Nat) (o : Oper), ops[i]? = some o → listed[i]? = some true → ∀ e ∈ o.after, Region.binds .any e = true → listed[e.on]? = some true) :
    ∀ (f : Nat) (o : Oper) (i : Nat), (∀ e ∈ o.after, Region.binds .any e = true → listed[e.on]? = some true) → waitsT ops f o i = true → listed[i]? = some true
  | 0, _, _, _, h => by simp [waitsT] at h
  | f + 1, o, i, hp, h => by
    unfold waitsT at h
    obtain ⟨e, he, h2⟩ := List.any_eq_true.1 h
    have he := Array.mem_toList_iff.1 he
    simp only [Bool.and_eq_true, Bool.or_eq_true, beq_iff_eq] at h2
    obtain ⟨hb, h3⟩ := h2
    rcases h3 with h3 | h3
    · rw [← h3]; exact hp e he hb
    · cases ho : ops[e.on]? with
      | none => rw [ho] at h3; cases h3
      | some o' =>
        rw [ho] at h3
        exact waitsT_listed hc f o' i (hc e.on o' ho (hp e he hb)) h3
/-- Each operation from m on waits for each of the first m; these bear no guard. -/
def lateB (ops : Array Oper) (m : Nat) : Bool :=
  (List.range ops.size).all fun j => match ops[j]? with
    | some o => (o.after.all fun e => !Region.binds .any e || decide (e.on < j)) && if j < m then o.guard.isNone else (List.range m).all fun i => waitsT ops ops.size o i
    | none => true
def listedTo (n m : Nat) : Array Bool := ((List.range n).map fun i => decide (i < m)).toArray

theorem put_self (a : Act) (x : Option Tmp) : a.put x ((x.map fun d => a.tmps.getD d undef).getD undef) = a := by
  cases x with
  | none => rfl
  | some d =>
    simp only [Act.put, Option.map_some, Option.getD_some]
    congr 1
    apply Array.ext
    · simp
    · intro i h1 h2
      rw [Array.getElem_setIfInBounds h2]
      split
      · rename_i h; subst h; simp [h2]
      · rfl
theorem canon_self (ops : Array Oper) (a0 : Act) : ∀ m, canon ops a0 (fun i => (((ops[i]?).bind (·.dst)).map fun d => a0.tmps.getD d undef).getD undef) m = a0
  | 0 => rfl
  | m + 1 => by rw [canon_succ, canon_self ops a0 m, put_self]

/-- What is known behind some of the first m operations. -/
structure GrowI (ops : Array Oper) (a0 : Act) (w0 : World) (m : Nat) (R : Nat → Value → World → Prop) (D : Nat → Nat → Value → Value → Prop) (listed : Array Bool) (a : Act) (w : World) : Prop where
  size : listed.size = ops.size
  late : ∀ j, m ≤ j → j < ops.size → listed[j]? = some false
  shut : ∀ (i : Nat) (o : Oper), ops[i]? = some o → listed[i]? = some true → ∀ e ∈ o.after, Region.binds .any e = true → listed[e.on]? = some true
  bel : Below w0.heap.size w0 w
  vals : ∃ vs : Nat → Value, a = canon ops a0 vs m ∧ (∀ i, i < m → listed[i]? = some true → R i (vs i) w) ∧
    ∀ i j, i < m → j < m → i ≠ j → listed[i]? = some true → listed[j]? = some true → D i j (vs i) (vs j) ∨ D j i (vs j) (vs i)

theorem wpAny_grow {a0 : Act} {w0 : World} (m : Nat) (hmn : m ≤ ops.size) (hdst : apartDst ops m) (hlate : lateB ops m = true)
    (R : Nat → Value → World → Prop) (D : Nat → Nat → Value → Value → Prop) (hR : ∀ i v w w', R i v w → Below w.heap.size w w' → R i v w')
    (hop : ∀ i, i < m → ∀ o, ops[i]? = some o → ∀ vs w, Below w0.heap.size w0 w → (∀ j, j < m → waitsFor o j = true → R j (vs j) w) →
      o.wp P (canon ops a0 vs m) w (fun a' w' => ∃ v, a' = (canon ops a0 vs m).put o.dst v ∧ R i v w' ∧ Below w.heap.size w w' ∧ ∀ j, j < m → R j (vs j) w → D i j v (vs j)) Q)
    (hend : ∀ vs w, Below w0.heap.size w0 w → (∀ i, i < m → R i (vs i) w) → (∀ i j, i < m → j < m → i ≠ j → D i j (vs i) (vs j) ∨ D j i (vs j) (vs i)) →
      wpAny P .any ops Q (ops.size - m) (listedTo ops.size m) (canon ops a0 vs m) w) :
    ∀ (fuel : Nat) (listed : Array Bool) (a : Act) (w : World), left listed = fuel → GrowI ops a0 w0 m R D listed a w → wpAny P .any ops Q fuel listed a w := by
  intro fuel
  induction fuel with
  | zero =>
    intro listed a w hl hI
    obtain ⟨hs, hla, hsh, hb, vs, rfl, hv, hd⟩ := hI
    have hall : ∀ i, i < ops.size → listed[i]? = some true := fun i hi => by
      have hi' : i < listed.size := by omega
      rw [Array.getElem?_eq_getElem hi']
      cases hb : listed[i] with
      | true => rfl
      | false =>
        have := left_set listed i (by rw [Array.getElem?_eq_getElem hi', hb])
        omega
    have hm : m = ops.size := by
      rcases Nat.lt_or_ge m ops.size with h | h
      · have h1 := hla m (Nat.le_refl _) h
        rw [hall m h] at h1; cases h1
      · omega
    have he := hend vs w hb (fun i hi => hv i hi (hall i (by omega))) (fun i j hi hj hne => hd i j hi hj hne (hall i (by omega)) (hall j (by omega)))
    have e : listedTo ops.size m = listed := by
      apply Array.ext
      · simp [listedTo, hs]
      · intro i h1 h2
        have := hall i (by omega)
        rw [Array.getElem?_eq_getElem h2] at this
        simp only [listedTo, List.getElem_toArray, List.getElem_map, List.getElem_range]
        rw [Option.some.inj this]
        exact decide_eq_true (by omega)
    rw [e, hm, Nat.sub_self] at he
    rwa [hm]
  | succ fuel ih =>
    intro listed a w hl hI
    by_cases hall : ∀ i, i < m → listed[i]? = some true
    · obtain ⟨hs, hla, hsh, hb, vs, rfl, hv, hd⟩ := hI
      have he := hend vs w hb (fun i hi => hv i hi (hall i hi)) (fun i j hi hj hne => hd i j hi hj hne (hall i hi) (hall j hj))
      have e : listedTo ops.size m = listed := by
        apply Array.ext
        · simp [listedTo, hs]
        · intro i h1 h2
          simp only [listedTo, List.getElem_toArray, List.getElem_map, List.getElem_range]
          by_cases hi : i < m
          · have := hall i hi
            rw [Array.getElem?_eq_getElem h2] at this
            rw [Option.some.inj this]
            exact decide_eq_true hi
          · have := hla i (by omega) (by omega)
            rw [Array.getElem?_eq_getElem h2] at this
            rw [Option.some.inj this]
            exact decide_eq_false hi
      have hf : ops.size - m = fuel + 1 := by
        rw [← hl, ← e]
        simp only [left, listedTo]
        have hlen : ∀ n, m ≤ n → (((List.range n).map fun i => decide (i < m)).filter (!·)).length = n - m := by
          intro n
          induction n with
          | zero => intro h; simp
          | succ n ihn =>
            intro h
            rw [List.range_succ, List.map_append, List.filter_append, List.length_append]
            by_cases hn : m ≤ n
            · rw [ihn hn]; simp [show ¬ n < m by omega]; omega
            · have hmn' : m = n + 1 := by omega
              have hz : ((List.range n).map fun i => decide (i < m)).filter (!·) = [] := by
                rw [List.filter_eq_nil_iff]
                intro b hb
                obtain ⟨i, hi, rfl⟩ := List.mem_map.1 hb
                simp; have := List.mem_range.1 hi; omega
              rw [hz]; simp [show n < m by omega]; omega
        exact (hlen _ hmn).symm
      rw [e, hf] at he
      exact he
    · obtain ⟨hs, hla, hsh, hb, vs, rfl, hv, hd⟩ := hI
      have hlt : ∀ j o, ops[j]? = some o → (∀ e ∈ o.after, Region.binds .any e = true → e.on < j) ∧ (j < m → o.guard = none) ∧ (m ≤ j → ∀ i, i < m → waitsT ops ops.size o i = true) := fun j o hj => by
        have hjn : j < ops.size := (Array.getElem?_eq_some_iff.1 hj).1
        have h1 := List.all_eq_true.1 hlate j (List.mem_range.2 hjn)
        simp only [hj, Bool.and_eq_true] at h1
        obtain ⟨h2, h3⟩ := h1
        refine ⟨fun e he hbd => ?_, fun hlt => ?_, fun hge i hi => ?_⟩
        · have := Array.all_eq_true_iff_forall_mem.1 h2 e he
          rw [hbd] at this
          simpa using this
        · rw [if_pos hlt] at h3; simpa using h3
        · rw [if_neg (by omega)] at h3
          exact List.all_eq_true.1 h3 i (List.mem_range.2 hi)
      have hmem : ∀ i, i ∈ Region.ready .any ops listed ↔ i < ops.size ∧ listed[i]? = some false ∧ ∃ o, ops[i]? = some o ∧ ∀ e ∈ o.after, Region.binds .any e = true → listed[e.on]? = some true := fun i => by
        unfold Region.ready
        rw [List.mem_filter, List.mem_range]
        constructor
        · rintro ⟨hi, h1⟩
          simp only [Bool.and_eq_true, Bool.not_eq_true'] at h1
          obtain ⟨h2, h3⟩ := h1
          have hi' : i < listed.size := by omega
          refine ⟨hi, ?_, ops[i], Array.getElem?_eq_getElem hi, fun e he hbd => ?_⟩
          · rw [Array.getElem?_eq_getElem hi']
            rw [Array.getD_eq_getD_getElem?, Array.getElem?_eq_getElem hi'] at h2
            simpa using h2
          · rw [Array.getElem?_eq_getElem hi] at h3
            simp only [Option.map_some, Option.getD_some] at h3
            have h4 := Array.all_eq_true_iff_forall_mem.1 h3 e he
            rw [hbd] at h4
            simp only [Bool.not_true, Bool.false_or] at h4
            rw [Array.getD_eq_getD_getElem?] at h4
            cases hq : listed[e.on]? with
            | none => rw [hq] at h4; cases h4
            | some b => rw [hq] at h4; simp at h4; rw [h4]
        · rintro ⟨hi, h1, o, ho, h2⟩
          refine ⟨hi, ?_⟩
          rw [Array.getD_eq_getD_getElem?, h1, ho]
          simp only [Option.getD_some, Bool.not_false, Bool.true_and, Option.map_some]
          rw [Array.all_eq_true_iff_forall_mem]
          intro e he
          cases hbd : Region.binds .any e with
          | false => rfl
          | true => rw [Array.getD_eq_getD_getElem?, h2 e he hbd]; rfl
      refine ⟨fun hr => ?_, fun i hi => ?_⟩
      · -- something of the first m is still to come, and yet nothing may: the least such
        exfalso
        have hex : ∀ k, k ≤ m → ∀ i, i < k → listed[i]? = some true := fun k => by
          induction k with
          | zero => intro _ i hi; omega
          | succ k ihk =>
            intro hk i hi
            by_cases hik : i < k
            · exact ihk (by omega) i hik
            · obtain rfl : i = k := by omega
              have hi' : i < listed.size := by omega
              cases hbv : listed[i] with
              | true => rw [Array.getElem?_eq_getElem hi', hbv]
              | false =>
                have hio : i < ops.size := by omega
                have : i ∈ Region.ready .any ops listed := (hmem i).2 ⟨hio, by rw [Array.getElem?_eq_getElem hi', hbv], ops[i], Array.getElem?_eq_getElem hio, fun e he hbd => ihk (by omega) _ ((hlt i _ (Array.getElem?_eq_getElem hio)).1 e he hbd)⟩
                rw [hr] at this
                cases this
        exact hall (hex m (Nat.le_refl _))
      · obtain ⟨hin, hif, o, ho, hpre⟩ := (hmem i).1 hi
        have him : i < m := by
          rcases Nat.lt_or_ge i m with h | h
          · exact h
          · exfalso
            refine hall fun j hj => ?_
            exact waitsT_listed hsh _ o j hpre ((hlt i o ho).2.2 h j hj)
        have hg := (hlt i o ho).2.1 him
        have hop' := hop i him o ho vs w hb (fun j hj hw => hv j hj (by
          unfold waitsFor at hw
          obtain ⟨e, he, h2⟩ := List.any_eq_true.1 hw
          have he := Array.mem_toList_iff.1 he
          simp only [Bool.and_eq_true, beq_iff_eq] at h2
          rw [← h2.2]
          exact hpre e he h2.1))
        have hwant : Region.wanted o (yielded ops (canon ops a0 vs m).tmps) = true := by simp [Region.wanted, hg]
        unfold wpOp
        simp only [ho, hwant, if_true]
        refine .inl (Oper.wp_mono (fun a' w' h => ?_) hop')
        obtain ⟨v, rfl, hRv, hbel, hDv⟩ := h
        have hl2 := left_set listed i hif
        have hod : (ops[i]?).bind (·.dst) = o.dst := by rw [ho]; rfl
        refine ih _ _ w' (by omega) ⟨by simpa using hs, fun j h1 h2 => ?_, fun j oj hoj hlj e he hbd => ?_, hb.trans (hbel.mono hb.size), fun j => if j = i then v else vs j, by rw [← hod]; exact canon_put vs i v m him hdst, fun j hj hl => ?_, fun j k hj hk hne hlj hlk => ?_⟩
        · rw [Array.getElem?_setIfInBounds_ne (by omega)]; exact hla j h1 h2
        · have hgo : listed[e.on]? = some true := by
            by_cases hji : j = i
            · subst hji
              obtain rfl := Option.some.inj (ho.symm.trans hoj)
              exact hpre e he hbd
            · rw [Array.getElem?_setIfInBounds_ne (fun h => hji h.symm)] at hlj
              exact hsh j oj hoj hlj e he hbd
          rw [Array.getElem?_setIfInBounds_ne (fun h => by rw [h] at hif; rw [hgo] at hif; cases hif)]
          exact hgo
        · show R j (if j = i then v else vs j) w'
          by_cases hji : j = i
          · subst hji; rw [if_pos rfl]; exact hRv
          · rw [if_neg hji]
            rw [Array.getElem?_setIfInBounds_ne (fun h => hji h.symm)] at hl
            exact hR j _ w w' (hv j hj hl) hbel
        · show D j k (if j = i then v else vs j) (if k = i then v else vs k) ∨ D k j (if k = i then v else vs k) (if j = i then v else vs j)
          by_cases hji : j = i
          · subst hji
            rw [Array.getElem?_setIfInBounds_ne hne] at hlk
            rw [if_pos rfl, if_neg (fun h => hne h.symm)]
            exact .inl (hDv k hk (hv k hk hlk))
          · rw [Array.getElem?_setIfInBounds_ne (fun h => hji h.symm)] at hlj
            by_cases hki : k = i
            · subst hki
              rw [if_pos rfl, if_neg hji]
              exact .inr (hDv j hj (hv j hj hlj))
            · rw [Array.getElem?_setIfInBounds_ne (fun h => hki h.symm)] at hlk
              rw [if_neg hji, if_neg hki]
              exact hd j k hj hk hne hlj hlk

/-- THE RULE: the first m operations in whatever order, then the rest. -/
theorem wp_region_grow {id : Nat} {a0 : Act} {w0 : World} (hmix : P.follows .mixedOrders = true) (m : Nat) (hmn : m ≤ ops.size) (hdst : apartDst ops m) (hlate : lateB ops m = true)
    (R : Nat → Value → World → Prop) (D : Nat → Nat → Value → Value → Prop) (hR : ∀ i v w w', R i v w → Below w.heap.size w w' → R i v w')
    (hop : ∀ i, i < m → ∀ o, ops[i]? = some o → ∀ vs w, Below w0.drew.heap.size w0.drew w → (∀ j, j < m → waitsFor o j = true → R j (vs j) w) →
      o.wp P (canon ops a0 vs m) w (fun a' w' => ∃ v, a' = (canon ops a0 vs m).put o.dst v ∧ R i v w' ∧ Below w.heap.size w w' ∧ ∀ j, j < m → R j (vs j) w → D i j v (vs j)) Q)
    (hend : ∀ vs w, Below w0.drew.heap.size w0.drew w → (∀ i, i < m → R i (vs i) w) → (∀ i j, i < m → j < m → i ≠ j → D i j (vs i) (vs j) ∨ D j i (vs j) (vs i)) →
      wpAny P .any ops Q (ops.size - m) (listedTo ops.size m) (canon ops a0 vs m) w) : (Code.region id ops true).wp P Q a0 w0 := by
  refine wp_region_any hmix ?_
  have hleft : ∀ n, left (Array.replicate n false) = n := fun n => by simp [left]
  refine wpAny_grow (w0 := w0.drew) m hmn hdst hlate R D hR hop hend _ _ _ _ (hleft _) ⟨by simp, fun j _ h => by simp [h], fun i o _ h => by (rw [Array.getElem?_replicate] at h; split at h <;> simp at h), Below.refl _ _, _, (canon_self ops a0 m).symm, fun i hi h => ?_, fun i j hi _ _ h => ?_⟩
  · rw [Array.getElem?_replicate] at h; split at h <;> simp at h
  · rw [Array.getElem?_replicate] at h; split at h <;> simp at h
/-- One alone may come up. -/
theorem wpAny_last {listed : Array Bool} {a : Act} {w : World} {fuel : Nat} (i : Nat) (hr : Region.ready md ops listed = [i])
    (h : wpOp P ops Q i (wpAny P md ops Q fuel (listed.setIfInBounds i true)) a w) : wpAny P md ops Q (fuel + 1) listed a w :=
  ⟨fun e => (by rw [hr] at e; cases e), fun j hj => (by rw [hr] at hj; simp at hj; subst hj; exact h)⟩
/-- Two may come up. -/
theorem wpAny_two {listed : Array Bool} {a : Act} {w : World} {fuel : Nat} (i j : Nat) (hr : Region.ready md ops listed = [i, j])
    (h1 : wpOp P ops Q i (wpAny P md ops Q fuel (listed.setIfInBounds i true)) a w) (h2 : wpOp P ops Q j (wpAny P md ops Q fuel (listed.setIfInBounds j true)) a w) : wpAny P md ops Q (fuel + 1) listed a w :=
  ⟨fun e => (by rw [hr] at e; cases e), fun k hk => (by
    rw [hr] at hk; simp at hk
    rcases hk with hk | hk
    · subst hk; exact h1
    · subst hk; exact h2)⟩
/-- All have come up. -/
theorem wpAny_none {listed : Array Bool} {a : Act} {w : World} (hr : Region.ready md ops listed = []) (h : Q .normal a w) : ∀ fuel, wpAny P md ops Q fuel listed a w
  | 0 => ⟨hr, h⟩
  | _ + 1 => ⟨fun _ => h, fun j hj => (by rw [hr] at hj; cases hj)⟩
theorem wpOp_go {i : Nat} {K : Act → World → Prop} {a : Act} {w : World} {o : Oper} (ho : ops[i]? = some o) (hg : o.guard = none) (h : o.wp P a w K Q) : wpOp P ops Q i K a w := by
  unfold wpOp
  have hw : Region.wanted o (yielded ops a.tmps) = true := by simp [Region.wanted, hg]
  simp only [ho, hw, if_true]
  exact .inl h
end

end Go.Proofs.YtkcpgcaccgahaaaGreatDoor
namespace Go.Proofs.YtkcpgcaccgahaaaGreatDoor
open Go.RowKit
section
variable {P : Program} {ops : Array Oper} {Q : Exit → Act → World → Prop} {md : Region.Mode}

/-- What is known behind some of the first m operations. -/
structure GrowIR (Rl : World → World → Prop) (ops : Array Oper) (a0 : Act) (w0 : World) (m : Nat) (R : Nat → Value → World → Prop) (D : Nat → Nat → Value → Value → Prop) (listed : Array Bool) (a : Act) (w : World) : Prop where
  size : listed.size = ops.size
  late : ∀ j, m ≤ j → j < ops.size → listed[j]? = some false
  shut : ∀ (i : Nat) (o : Oper), ops[i]? = some o → listed[i]? = some true → ∀ e ∈ o.after, Region.binds .any e = true → listed[e.on]? = some true
  bel : Rl w0 w
  vals : ∃ vs : Nat → Value, a = canon ops a0 vs m ∧ (∀ i, i < m → listed[i]? = some true → R i (vs i) w) ∧
    ∀ i j, i < m → j < m → i ≠ j → listed[i]? = some true → listed[j]? = some true → D i j (vs i) (vs j) ∨ D j i (vs j) (vs i)

theorem wpAny_growR (Rl : World → World → Prop) (htr : ∀ a b c, Rl a b → Rl b c → Rl a c) {a0 : Act} {w0 : World} (m : Nat) (hmn : m ≤ ops.size) (hdst : apartDst ops m) (hlate : lateB ops m = true)
    (R : Nat → Value → World → Prop) (D : Nat → Nat → Value → Value → Prop) (hR : ∀ i v w w', R i v w → Rl w w' → R i v w')
    (hop : ∀ i, i < m → ∀ o, ops[i]? = some o → ∀ vs w, Rl w0 w → (∀ j, j < m → waitsFor o j = true → R j (vs j) w) →
      o.wp P (canon ops a0 vs m) w (fun a' w' => ∃ v, a' = (canon ops a0 vs m).put o.dst v ∧ R i v w' ∧ Rl w w' ∧ ∀ j, j < m → R j (vs j) w → D i j v (vs j)) Q)
    (hend : ∀ vs w, Rl w0 w → (∀ i, i < m → R i (vs i) w) → (∀ i j, i < m → j < m → i ≠ j → D i j (vs i) (vs j) ∨ D j i (vs j) (vs i)) →
      wpAny P .any ops Q (ops.size - m) (listedTo ops.size m) (canon ops a0 vs m) w) :
    ∀ (fuel : Nat) (listed : Array Bool) (a : Act) (w : World), left listed = fuel → GrowIR Rl ops a0 w0 m R D listed a w → wpAny P .any ops Q fuel listed a w := by
  intro fuel
  induction fuel with
  | zero =>
    intro listed a w hl hI
    obtain ⟨hs, hla, hsh, hb, vs, rfl, hv, hd⟩ := hI
    have hall : ∀ i, i < ops.size → listed[i]? = some true := fun i hi => by
      have hi' : i < listed.size := by omega
      rw [Array.getElem?_eq_getElem hi']
      cases hb : listed[i] with
      | true => rfl
      | false =>
        have := left_set listed i (by rw [Array.getElem?_eq_getElem hi', hb])
        omega
    have hm : m = ops.size := by
      rcases Nat.lt_or_ge m ops.size with h | h
      · have h1 := hla m (Nat.le_refl _) h
        rw [hall m h] at h1; cases h1
      · omega
    have he := hend vs w hb (fun i hi => hv i hi (hall i (by omega))) (fun i j hi hj hne => hd i j hi hj hne (hall i (by omega)) (hall j (by omega)))
    have e : listedTo ops.size m = listed := by
      apply Array.ext
      · simp [listedTo, hs]
      · intro i h1 h2
        have := hall i (by omega)
        rw [Array.getElem?_eq_getElem h2] at this
        simp only [listedTo, List.getElem_toArray, List.getElem_map, List.getElem_range]
        rw [Option.some.inj this]
        exact decide_eq_true (by omega)
    rw [e, hm, Nat.sub_self] at he
    rwa [hm]
  | succ fuel ih =>
    intro listed a w hl hI
    by_cases hall : ∀ i, i < m → listed[i]? = some true
    · obtain ⟨hs, hla, hsh, hb, vs, rfl, hv, hd⟩ := hI
      have he := hend vs w hb (fun i hi => hv i hi (hall i hi)) (fun i j hi hj hne => hd i j hi hj hne (hall i hi) (hall j hj))
      have e : listedTo ops.size m = listed := by
        apply Array.ext
        · simp [listedTo, hs]
        · intro i h1 h2
          simp only [listedTo, List.getElem_toArray, List.getElem_map, List.getElem_range]
          by_cases hi : i < m
          · have := hall i hi
            rw [Array.getElem?_eq_getElem h2] at this
            rw [Option.some.inj this]
            exact decide_eq_true hi
          · have := hla i (by omega) (by omega)
            rw [Array.getElem?_eq_getElem h2] at this
            rw [Option.some.inj this]
            exact decide_eq_false hi
      have hf : ops.size - m = fuel + 1 := by
        rw [← hl, ← e]
        simp only [left, listedTo]
        have hlen : ∀ n, m ≤ n → (((List.range n).map fun i => decide (i < m)).filter (!·)).length = n - m := by
          intro n
          induction n with
          | zero => intro h; simp
          | succ n ihn =>
            intro h
            rw [List.range_succ, List.map_append, List.filter_append, List.length_append]
            by_cases hn : m ≤ n
            · rw [ihn hn]; simp [show ¬ n < m by omega]; omega
            · have hmn' : m = n + 1 := by omega
              have hz : ((List.range n).map fun i => decide (i < m)).filter (!·) = [] := by
                rw [List.filter_eq_nil_iff]
                intro b hb
                obtain ⟨i, hi, rfl⟩ := List.mem_map.1 hb
                simp; have := List.mem_range.1 hi; omega
              rw [hz]; simp [show n < m by omega]; omega
        exact (hlen _ hmn).symm
      rw [e, hf] at he
      exact he
    · obtain ⟨hs, hla, hsh, hb, vs, rfl, hv, hd⟩ := hI
      have hlt : ∀ j o, ops[j]? = some o → (∀ e ∈ o.after, Region.binds .any e = true → e.on < j) ∧ (j < m → o.guard = none) ∧ (m ≤ j → ∀ i, i < m → waitsT ops ops.size o i = true) := fun j o hj => by
        have hjn : j < ops.size := (Array.getElem?_eq_some_iff.1 hj).1
        have h1 := List.all_eq_true.1 hlate j (List.mem_range.2 hjn)
        simp only [hj, Bool.and_eq_true] at h1
        obtain ⟨h2, h3⟩ := h1
        refine ⟨fun e he hbd => ?_, fun hlt => ?_, fun hge i hi => ?_⟩
        · have := Array.all_eq_true_iff_forall_mem.1 h2 e he
          rw [hbd] at this
          simpa using this
        · rw [if_pos hlt] at h3; simpa using h3
        · rw [if_neg (by omega)] at h3
          exact List.all_eq_true.1 h3 i (List.mem_range.2 hi)
      have hmem : ∀ i, i ∈ Region.ready .any ops listed ↔ i < ops.size ∧ listed[i]? = some false ∧ ∃ o, ops[i]? = some o ∧ ∀ e ∈ o.after, Region.binds .any e = true → listed[e.on]? = some true := fun i => by
        unfold Region.ready
        rw [List.mem_filter, List.mem_range]
        constructor
        · rintro ⟨hi, h1⟩
          simp only [Bool.and_eq_true, Bool.not_eq_true'] at h1
          obtain ⟨h2, h3⟩ := h1
          have hi' : i < listed.size := by omega
          refine ⟨hi, ?_, ops[i], Array.getElem?_eq_getElem hi, fun e he hbd => ?_⟩
          · rw [Array.getElem?_eq_getElem hi']
            rw [Array.getD_eq_getD_getElem?, Array.getElem?_eq_getElem hi'] at h2
            simpa using h2
          · rw [Array.getElem?_eq_getElem hi] at h3
            simp only [Option.map_some, Option.getD_some] at h3
            have h4 := Array.all_eq_true_iff_forall_mem.1 h3 e he
            rw [hbd] at h4
            simp only [Bool.not_true, Bool.false_or] at h4
            rw [Array.getD_eq_getD_getElem?] at h4
            cases hq : listed[e.on]? with
            | none => rw [hq] at h4; cases h4
            | some b => rw [hq] at h4; simp at h4; rw [h4]
        · rintro ⟨hi, h1, o, ho, h2⟩
          refine ⟨hi, ?_⟩
          rw [Array.getD_eq_getD_getElem?, h1, ho]
          simp only [Option.getD_some, Bool.not_false, Bool.true_and, Option.map_some]
          rw [Array.all_eq_true_iff_forall_mem]
          intro e he
          cases hbd : Region.binds .any e with
          | false => rfl
          | true => rw [Array.getD_eq_getD_getElem?, h2 e he hbd]; rfl
      refine ⟨fun hr => ?_, fun i hi => ?_⟩
      · -- something of the first m is still to come, and yet nothing may: the least such
        exfalso
        have hex : ∀ k, k ≤ m → ∀ i, i < k → listed[i]? = some true := fun k => by
          induction k with
          | zero => intro _ i hi; omega
          | succ k ihk =>
            intro hk i hi
            by_cases hik : i < k
            · exact ihk (by omega) i hik
            · obtain rfl : i = k := by omega
              have hi' : i < listed.size := by omega
              cases hbv : listed[i] with
              | true => rw [Array.getElem?_eq_getElem hi', hbv]
              | false =>
                have hio : i < ops.size := by omega
                have : i ∈ Region.ready .any ops listed := (hmem i).2 ⟨hio, by rw [Array.getElem?_eq_getElem hi', hbv], ops[i], Array.getElem?_eq_getElem hio, fun e he hbd => ihk (by omega) _ ((hlt i _ (Array.getElem?_eq_getElem hio)).1 e he hbd)⟩
                rw [hr] at this
                cases this
        exact hall (hex m (Nat.le_refl _))
      · obtain ⟨hin, hif, o, ho, hpre⟩ := (hmem i).1 hi
        have him : i < m := by
          rcases Nat.lt_or_ge i m with h | h
          · exact h
          · exfalso
            refine hall fun j hj => ?_
            exact waitsT_listed hsh _ o j hpre ((hlt i o ho).2.2 h j hj)
        have hg := (hlt i o ho).2.1 him
        have hop' := hop i him o ho vs w hb (fun j hj hw => hv j hj (by
          unfold waitsFor at hw
          obtain ⟨e, he, h2⟩ := List.any_eq_true.1 hw
          have he := Array.mem_toList_iff.1 he
          simp only [Bool.and_eq_true, beq_iff_eq] at h2
          rw [← h2.2]
          exact hpre e he h2.1))
        have hwant : Region.wanted o (yielded ops (canon ops a0 vs m).tmps) = true := by simp [Region.wanted, hg]
        unfold wpOp
        simp only [ho, hwant, if_true]
        refine .inl (Oper.wp_mono (fun a' w' h => ?_) hop')
        obtain ⟨v, rfl, hRv, hbel, hDv⟩ := h
        have hl2 := left_set listed i hif
        have hod : (ops[i]?).bind (·.dst) = o.dst := by rw [ho]; rfl
        refine ih _ _ w' (by omega) ⟨by simpa using hs, fun j h1 h2 => ?_, fun j oj hoj hlj e he hbd => ?_, htr _ _ _ hb hbel, fun j => if j = i then v else vs j, by rw [← hod]; exact canon_put vs i v m him hdst, fun j hj hl => ?_, fun j k hj hk hne hlj hlk => ?_⟩
        · rw [Array.getElem?_setIfInBounds_ne (by omega)]; exact hla j h1 h2
        · have hgo : listed[e.on]? = some true := by
            by_cases hji : j = i
            · subst hji
              obtain rfl := Option.some.inj (ho.symm.trans hoj)
              exact hpre e he hbd
            · rw [Array.getElem?_setIfInBounds_ne (fun h => hji h.symm)] at hlj
              exact hsh j oj hoj hlj e he hbd
          rw [Array.getElem?_setIfInBounds_ne (fun h => by rw [h] at hif; rw [hgo] at hif; cases hif)]
          exact hgo
        · show R j (if j = i then v else vs j) w'
          by_cases hji : j = i
          · subst hji; rw [if_pos rfl]; exact hRv
          · rw [if_neg hji]
            rw [Array.getElem?_setIfInBounds_ne (fun h => hji h.symm)] at hl
            exact hR j _ w w' (hv j hj hl) hbel
        · show D j k (if j = i then v else vs j) (if k = i then v else vs k) ∨ D k j (if k = i then v else vs k) (if j = i then v else vs j)
          by_cases hji : j = i
          · subst hji
            rw [Array.getElem?_setIfInBounds_ne hne] at hlk
            rw [if_pos rfl, if_neg (fun h => hne h.symm)]
            exact .inl (hDv k hk (hv k hk hlk))
          · rw [Array.getElem?_setIfInBounds_ne (fun h => hji h.symm)] at hlj
            by_cases hki : k = i
            · subst hki
              rw [if_pos rfl, if_neg hji]
              exact .inr (hDv j hj (hv j hj hlj))
            · rw [Array.getElem?_setIfInBounds_ne (fun h => hki h.symm)] at hlk
              rw [if_neg hji, if_neg hki]
              exact hd j k hj hk hne hlj hlk

/-- THE RULE: the first m operations in whatever order, then the rest. -/
theorem wp_region_growR (Rl : World → World → Prop) (hrf : ∀ w, Rl w w) (htr : ∀ a b c, Rl a b → Rl b c → Rl a c) {id : Nat} {a0 : Act} {w0 : World} (hmix : P.follows .mixedOrders = true) (m : Nat) (hmn : m ≤ ops.size) (hdst : apartDst ops m) (hlate : lateB ops m = true)
    (R : Nat → Value → World → Prop) (D : Nat → Nat → Value → Value → Prop) (hR : ∀ i v w w', R i v w → Rl w w' → R i v w')
    (hop : ∀ i, i < m → ∀ o, ops[i]? = some o → ∀ vs w, Rl w0.drew w → (∀ j, j < m → waitsFor o j = true → R j (vs j) w) →
      o.wp P (canon ops a0 vs m) w (fun a' w' => ∃ v, a' = (canon ops a0 vs m).put o.dst v ∧ R i v w' ∧ Rl w w' ∧ ∀ j, j < m → R j (vs j) w → D i j v (vs j)) Q)
    (hend : ∀ vs w, Rl w0.drew w → (∀ i, i < m → R i (vs i) w) → (∀ i j, i < m → j < m → i ≠ j → D i j (vs i) (vs j) ∨ D j i (vs j) (vs i)) →
      wpAny P .any ops Q (ops.size - m) (listedTo ops.size m) (canon ops a0 vs m) w) : (Code.region id ops true).wp P Q a0 w0 := by
  refine wp_region_any hmix ?_
  have hleft : ∀ n, left (Array.replicate n false) = n := fun n => by simp [left]
  refine wpAny_growR Rl htr (w0 := w0.drew) m hmn hdst hlate R D hR hop hend _ _ _ _ (hleft _) ⟨by simp, fun j _ h => by simp [h], fun i o _ h => by (rw [Array.getElem?_replicate] at h; split at h <;> simp at h), hrf _, _, (canon_self ops a0 m).symm, fun i hi h => ?_, fun i j hi _ _ h => ?_⟩
  · rw [Array.getElem?_replicate] at h; split at h <;> simp at h
  · rw [Array.getElem?_replicate] at h; split at h <;> simp at h

end

/-- Block r goes from C0 to C and no further; what lies below it stays. -/
def OneStep (r : Nat) (C0 C : Obj) (w w' : World) : Prop :=
  Below r w w' ∧ (w.heap[r]? = some C → w'.heap[r]? = some C) ∧ (w.heap[r]? = some C0 → w'.heap[r]? = some C0 ∨ w'.heap[r]? = some C)
theorem OneStep.refl (r : Nat) (C0 C : Obj) (w : World) : OneStep r C0 C w w := ⟨Below.refl _ _, id, .inl⟩
theorem OneStep.trans {r : Nat} {C0 C : Obj} {a b c : World} (h : OneStep r C0 C a b) (k : OneStep r C0 C b c) : OneStep r C0 C a c :=
  ⟨h.1.trans k.1, fun x => k.2.1 (h.2.1 x), fun x => (h.2.2 x).elim k.2.2 (fun y => .inr (k.2.1 y))⟩
theorem OneStep.of_below {r : Nat} {C0 C : Obj} {w w' : World} (h : Below w.heap.size w w') (hr : r < w.heap.size) : OneStep r C0 C w w' :=
  ⟨h.mono (by omega), fun x => (h.block r hr).trans x, fun x => .inl ((h.block r hr).trans x)⟩

end Go.Proofs.YtkcpgcaccgahaaaGreatDoor
namespace Go.Proofs.YtkcpgcaccgahaaaGreatDoor
open Go.RowKit
section
variable {P : Program} {ops : Array Oper} {Q : Exit → Act → World → Prop} {md : Region.Mode}

/-- Each operation from m on waits for each of the first m. -/
def lateG (ops : Array Oper) (m : Nat) : Bool :=
  (List.range ops.size).all fun j => match ops[j]? with
    | some o => (o.after.all fun e => !Region.binds .any e || decide (e.on < j)) && (decide (j < m) || (List.range m).all fun i => waitsT ops ops.size o i)
    | none => true
/-- What is asked of an operation: where it is wanted its run; where not, that the slot may stay empty. -/
def HopG (P : Program) (ops : Array Oper) (Q : Exit → Act → World → Prop) (Rl : World → World → Prop) (R : Nat → Value → World → Prop) (i : Nat) (o : Oper) (a : Act) (w : World) : Prop :=
  (Region.wanted o (yielded ops a.tmps) = true ∧ o.wp P a w (fun a' w' => ∃ v, a' = a.put o.dst v ∧ R i v w' ∧ Rl w w') Q) ∨ (Region.wanted o (yielded ops a.tmps) = false ∧ R i undef w)

theorem wpAny_growG (Rl : World → World → Prop) (hrf : ∀ w, Rl w w) (htr : ∀ a b c, Rl a b → Rl b c → Rl a c) {a0 : Act} {w0 : World} (m : Nat) (hmn : m ≤ ops.size) (hdst : apartDst ops m) (hlate : lateG ops m = true)
    (R : Nat → Value → World → Prop) (hR : ∀ i v w w', R i v w → Rl w w' → R i v w')
    (hop : ∀ i, i < m → ∀ o, ops[i]? = some o → ∀ vs w, Rl w0 w → (∀ j, j < m → waitsFor o j = true → R j (vs j) w) →
      HopG P ops Q Rl R i o (canon ops a0 vs m) w)
    (hend : ∀ vs w, Rl w0 w → (∀ i, i < m → R i (vs i) w) →
      wpAny P .any ops Q (ops.size - m) (listedTo ops.size m) (canon ops a0 vs m) w) :
    ∀ (fuel : Nat) (listed : Array Bool) (a : Act) (w : World), left listed = fuel → GrowIR Rl ops a0 w0 m R (fun _ _ _ _ => True) listed a w → wpAny P .any ops Q fuel listed a w := by
  intro fuel
  induction fuel with
  | zero =>
    intro listed a w hl hI
    obtain ⟨hs, hla, hsh, hb, vs, rfl, hv, hd⟩ := hI
    have hall : ∀ i, i < ops.size → listed[i]? = some true := fun i hi => by
      have hi' : i < listed.size := by omega
      rw [Array.getElem?_eq_getElem hi']
      cases hb : listed[i] with
      | true => rfl
      | false =>
        have := left_set listed i (by rw [Array.getElem?_eq_getElem hi', hb])
        omega
    have hm : m = ops.size := by
      rcases Nat.lt_or_ge m ops.size with h | h
      · have h1 := hla m (Nat.le_refl _) h
        rw [hall m h] at h1; cases h1
      · omega
    have he := hend vs w hb (fun i hi => hv i hi (hall i (by omega)))
    have e : listedTo ops.size m = listed := by
      apply Array.ext
      · simp [listedTo, hs]
      · intro i h1 h2
        have := hall i (by omega)
        rw [Array.getElem?_eq_getElem h2] at this
        simp only [listedTo, List.getElem_toArray, List.getElem_map, List.getElem_range]
        rw [Option.some.inj this]
        exact decide_eq_true (by omega)
    rw [e, hm, Nat.sub_self] at he
    rwa [hm]
  | succ fuel ih =>
    intro listed a w hl hI
    by_cases hall : ∀ i, i < m → listed[i]? = some true
    · obtain ⟨hs, hla, hsh, hb, vs, rfl, hv, hd⟩ := hI
      have he := hend vs w hb (fun i hi => hv i hi (hall i hi))
      have e : listedTo ops.size m = listed := by
        apply Array.ext
        · simp [listedTo, hs]
        · intro i h1 h2
          simp only [listedTo, List.getElem_toArray, List.getElem_map, List.getElem_range]
          by_cases hi : i < m
          · have := hall i hi
            rw [Array.getElem?_eq_getElem h2] at this
            rw [Option.some.inj this]
            exact decide_eq_true hi
          · have := hla i (by omega) (by omega)
            rw [Array.getElem?_eq_getElem h2] at this
            rw [Option.some.inj this]
            exact decide_eq_false hi
      have hf : ops.size - m = fuel + 1 := by
        rw [← hl, ← e]
        simp only [left, listedTo]
        have hlen : ∀ n, m ≤ n → (((List.range n).map fun i => decide (i < m)).filter (!·)).length = n - m := by
          intro n
          induction n with
          | zero => intro h; simp
          | succ n ihn =>
            intro h
            rw [List.range_succ, List.map_append, List.filter_append, List.length_append]
            by_cases hn : m ≤ n
            · rw [ihn hn]; simp [show ¬ n < m by omega]; omega
            · have hmn' : m = n + 1 := by omega
              have hz : ((List.range n).map fun i => decide (i < m)).filter (!·) = [] := by
                rw [List.filter_eq_nil_iff]
                intro b hb
                obtain ⟨i, hi, rfl⟩ := List.mem_map.1 hb
                simp; have := List.mem_range.1 hi; omega
              rw [hz]; simp [show n < m by omega]; omega
        exact (hlen _ hmn).symm
      rw [e, hf] at he
      exact he
    · obtain ⟨hs, hla, hsh, hb, vs, rfl, hv, hd⟩ := hI
      have hlt : ∀ j o, ops[j]? = some o → (∀ e ∈ o.after, Region.binds .any e = true → e.on < j) ∧ (m ≤ j → ∀ i, i < m → waitsT ops ops.size o i = true) := fun j o hj => by
        have hjn : j < ops.size := (Array.getElem?_eq_some_iff.1 hj).1
        have h1 := List.all_eq_true.1 hlate j (List.mem_range.2 hjn)
        simp only [hj, Bool.and_eq_true] at h1
        obtain ⟨h2, h3⟩ := h1
        refine ⟨fun e he hbd => ?_, fun hge i hi => ?_⟩
        · have := Array.all_eq_true_iff_forall_mem.1 h2 e he
          rw [hbd] at this
          simpa using this
        · rw [decide_eq_false (by omega), Bool.false_or] at h3
          exact List.all_eq_true.1 h3 i (List.mem_range.2 hi)
      have hmem : ∀ i, i ∈ Region.ready .any ops listed ↔ i < ops.size ∧ listed[i]? = some false ∧ ∃ o, ops[i]? = some o ∧ ∀ e ∈ o.after, Region.binds .any e = true → listed[e.on]? = some true := fun i => by
        unfold Region.ready
        rw [List.mem_filter, List.mem_range]
        constructor
        · rintro ⟨hi, h1⟩
          simp only [Bool.and_eq_true, Bool.not_eq_true'] at h1
          obtain ⟨h2, h3⟩ := h1
          have hi' : i < listed.size := by omega
          refine ⟨hi, ?_, ops[i], Array.getElem?_eq_getElem hi, fun e he hbd => ?_⟩
          · rw [Array.getElem?_eq_getElem hi']
            rw [Array.getD_eq_getD_getElem?, Array.getElem?_eq_getElem hi'] at h2
            simpa using h2
          · rw [Array.getElem?_eq_getElem hi] at h3
            simp only [Option.map_some, Option.getD_some] at h3
            have h4 := Array.all_eq_true_iff_forall_mem.1 h3 e he
            rw [hbd] at h4
            simp only [Bool.not_true, Bool.false_or] at h4
            rw [Array.getD_eq_getD_getElem?] at h4
            cases hq : listed[e.on]? with
            | none => rw [hq] at h4; cases h4
            | some b => rw [hq] at h4; simp at h4; rw [h4]
        · rintro ⟨hi, h1, o, ho, h2⟩
          refine ⟨hi, ?_⟩
          rw [Array.getD_eq_getD_getElem?, h1, ho]
          simp only [Option.getD_some, Bool.not_false, Bool.true_and, Option.map_some]
          rw [Array.all_eq_true_iff_forall_mem]
          intro e he
          cases hbd : Region.binds .any e with
          | false => rfl
          | true => rw [Array.getD_eq_getD_getElem?, h2 e he hbd]; rfl
      refine ⟨fun hr => ?_, fun i hi => ?_⟩
      · -- something of the first m is still to come, and yet nothing may: the least such
        exfalso
        have hex : ∀ k, k ≤ m → ∀ i, i < k → listed[i]? = some true := fun k => by
          induction k with
          | zero => intro _ i hi; omega
          | succ k ihk =>
            intro hk i hi
            by_cases hik : i < k
            · exact ihk (by omega) i hik
            · obtain rfl : i = k := by omega
              have hi' : i < listed.size := by omega
              cases hbv : listed[i] with
              | true => rw [Array.getElem?_eq_getElem hi', hbv]
              | false =>
                have hio : i < ops.size := by omega
                have : i ∈ Region.ready .any ops listed := (hmem i).2 ⟨hio, by rw [Array.getElem?_eq_getElem hi', hbv], ops[i], Array.getElem?_eq_getElem hio, fun e he hbd => ihk (by omega) _ ((hlt i _ (Array.getElem?_eq_getElem hio)).1 e he hbd)⟩
                rw [hr] at this
                cases this
        exact hall (hex m (Nat.le_refl _))
      · obtain ⟨hin, hif, o, ho, hpre⟩ := (hmem i).1 hi
        have him : i < m := by
          rcases Nat.lt_or_ge i m with h | h
          · exact h
          · exfalso
            refine hall fun j hj => ?_
            exact waitsT_listed hsh _ o j hpre ((hlt i o ho).2 h j hj)
        have hop' := hop i him o ho vs w hb (fun j hj hw => hv j hj (by
          unfold waitsFor at hw
          obtain ⟨e, he, h2⟩ := List.any_eq_true.1 hw
          have he := Array.mem_toList_iff.1 he
          simp only [Bool.and_eq_true, beq_iff_eq] at h2
          rw [← h2.2]
          exact hpre e he h2.1))
        have fin : ∀ v w', R i v w' → Rl w w' → wpAny P .any ops Q fuel (listed.setIfInBounds i true) ((canon ops a0 vs m).put o.dst v) w' := fun v w' hRv hbel => by
          have hl2 := left_set listed i hif
          have hod : (ops[i]?).bind (·.dst) = o.dst := by rw [ho]; rfl
          refine ih _ _ w' (by omega) ⟨by simpa using hs, fun j h1 h2 => ?_, fun j oj hoj hlj e he hbd => ?_, htr _ _ _ hb hbel, fun j => if j = i then v else vs j, by rw [← hod]; exact canon_put vs i v m him hdst, fun j hj hl => ?_, fun j k hj hk hne hlj hlk => ?_⟩
          · rw [Array.getElem?_setIfInBounds_ne (by omega)]; exact hla j h1 h2
          · have hgo : listed[e.on]? = some true := by
              by_cases hji : j = i
              · subst hji
                obtain rfl := Option.some.inj (ho.symm.trans hoj)
                exact hpre e he hbd
              · rw [Array.getElem?_setIfInBounds_ne (fun h => hji h.symm)] at hlj
                exact hsh j oj hoj hlj e he hbd
            rw [Array.getElem?_setIfInBounds_ne (fun h => by rw [h] at hif; rw [hgo] at hif; cases hif)]
            exact hgo
          · show R j (if j = i then v else vs j) w'
            by_cases hji : j = i
            · subst hji; rw [if_pos rfl]; exact hRv
            · rw [if_neg hji]
              rw [Array.getElem?_setIfInBounds_ne (fun h => hji h.symm)] at hl
              exact hR j _ w w' (hv j hj hl) hbel
          · exact .inl trivial
        unfold wpOp
        simp only [ho]
        rcases hop' with ⟨hwant, h⟩ | ⟨hwant, h⟩
        · rw [if_pos hwant]
          refine .inl (Oper.wp_mono (fun a' w' h => ?_) h)
          obtain ⟨v, rfl, hRv, hbel⟩ := h
          exact fin v w' hRv hbel
        · rw [if_neg (by rw [hwant]; decide)]
          exact fin undef w h (hrf w)

/-- THE RULE: the first m operations in whatever order, then the rest. -/
theorem wp_region_growG (Rl : World → World → Prop) (hrf : ∀ w, Rl w w) (htr : ∀ a b c, Rl a b → Rl b c → Rl a c) {id : Nat} {a0 : Act} {w0 : World} (hmix : P.follows .mixedOrders = true) (m : Nat) (hmn : m ≤ ops.size) (hdst : apartDst ops m) (hlate : lateG ops m = true)
    (R : Nat → Value → World → Prop) (hR : ∀ i v w w', R i v w → Rl w w' → R i v w')
    (hop : ∀ i, i < m → ∀ o, ops[i]? = some o → ∀ vs w, Rl w0.drew w → (∀ j, j < m → waitsFor o j = true → R j (vs j) w) →
      HopG P ops Q Rl R i o (canon ops a0 vs m) w)
    (hend : ∀ vs w, Rl w0.drew w → (∀ i, i < m → R i (vs i) w) →
      wpAny P .any ops Q (ops.size - m) (listedTo ops.size m) (canon ops a0 vs m) w) : (Code.region id ops true).wp P Q a0 w0 := by
  refine wp_region_any hmix ?_
  have hleft : ∀ n, left (Array.replicate n false) = n := fun n => by simp [left]
  refine wpAny_growG Rl hrf htr (w0 := w0.drew) m hmn hdst hlate R hR hop hend _ _ _ _ (hleft _) ⟨by simp, fun j _ h => by simp [h], fun i o _ h => by (rw [Array.getElem?_replicate] at h; split at h <;> simp at h), hrf _, _, (canon_self ops a0 m).symm, fun i hi h => ?_, fun i j hi _ _ h => ?_⟩
  · rw [Array.getElem?_replicate] at h; split at h <;> simp at h
  · rw [Array.getElem?_replicate] at h; split at h <;> simp at h

theorem canon_size (ops : Array Oper) (a0 : Act) (vs : Nat → Value) : ∀ m, (canon ops a0 vs m).tmps.size = a0.tmps.size
  | 0 => rfl
  | m + 1 => by
    rw [canon_succ]
    cases hd : (ops[m]?).bind (·.dst) with
    | none => simpa [Act.put] using canon_size ops a0 vs m
    | some d => simpa [Act.put] using canon_size ops a0 vs m
theorem canon_defers (ops : Array Oper) (a0 : Act) (vs : Nat → Value) : ∀ m, (canon ops a0 vs m).defers = a0.defers
  | 0 => rfl
  | m + 1 => by
    rw [canon_succ]
    cases hd : (ops[m]?).bind (·.dst) with
    | none => exact canon_defers ops a0 vs m
    | some d => exact canon_defers ops a0 vs m
theorem canon_get {ops : Array Oper} {a0 : Act} {vs : Nat → Value} {i d : Nat} (hi : (ops[i]?).bind (·.dst) = some d) (hs : d < a0.tmps.size) : ∀ m, i < m → apartDst ops m → (canon ops a0 vs m).tmps[d]? = some (vs i)
  | 0, h, _ => by omega
  | m + 1, h, hd => by
    rw [canon_succ]
    by_cases him : i = m
    · subst him
      rw [hi]
      simp only [Act.put]
      rw [Array.getElem?_setIfInBounds_self_of_lt (by rw [canon_size]; exact hs)]
    · have ih := canon_get (a0 := a0) (vs := vs) hi hs m (by omega) (fun i j d h1 h2 => hd i j d (by omega) (by omega))
      cases hm : (ops[m]?).bind (·.dst) with
      | none => exact ih
      | some d' =>
        simp only [Act.put]
        rw [Array.getElem?_setIfInBounds_ne (fun e => him (hd i m d (by omega) (by omega) hi (by rw [hm, e])))]
        exact ih
/-- A slot that none of the first m operations fills. -/
def freeB (ops : Array Oper) (m d : Nat) : Bool := (List.range m).all fun i => (ops[i]?).bind (·.dst) != some d
theorem canon_keep {ops : Array Oper} {a0 : Act} {vs : Nat → Value} {d : Nat} : ∀ m, freeB ops m d = true → (canon ops a0 vs m).tmps[d]? = a0.tmps[d]?
  | 0, _ => rfl
  | m + 1, h => by
    have h' : freeB ops m d = true ∧ ((ops[m]?).bind (·.dst) != some d) = true := by
      simpa [freeB, List.range_succ, List.all_append] using h
    rw [canon_succ]
    have ih := canon_keep (a0 := a0) (vs := vs) m h'.1
    cases hm : (ops[m]?).bind (·.dst) with
    | none => exact ih
    | some d' =>
      simp only [Act.put]
      rw [Array.getElem?_setIfInBounds_ne (fun e => by rw [hm, e] at h'; simp at h')]
      exact ih
/-- A guard on an operation of the first m that has left what is wanted. -/
theorem wanted_of {ops : Array Oper} {a0 : Act} {vs : Nat → Value} {o : Oper} {i d m : Nat} {b : Bool} (hg : o.guard = some (i, b)) (hi : (ops[i]?).bind (·.dst) = some d) (hs : d < a0.tmps.size) (him : i < m) (ha : apartDst ops m) (hv : vs i = .bool b) :
    Region.wanted o (yielded ops (canon ops a0 vs m).tmps) = true := by
  have h := canon_get (vs := vs) hi hs m him ha
  simp [Region.wanted, hg, yielded, hi, h, hv]

end

end Go.Proofs.YtkcpgcaccgahaaaGreatDoor
namespace Go.Proofs.YtkcpgcaccgahaaaGreatDoor
open Go.RowKit

/-- Block r goes from A to C and no further. -/
def Mono (r : Nat) (A C : Obj) (w w' : World) : Prop := (w.heap[r]? = some C → w'.heap[r]? = some C) ∧ (w.heap[r]? = some A → w'.heap[r]? = some A ∨ w'.heap[r]? = some C)
/-- Blocks r and s go from A to C, from D to E, and no further; all others stay. -/
def Two (B r s : Nat) (A C D E : Obj) (w w' : World) : Prop :=
  Below B w w' ∧ (∀ k, k < w.heap.size → k ≠ r → k ≠ s → w'.heap[k]? = w.heap[k]?) ∧ Mono r A C w w' ∧ Mono s D E w w'
theorem Mono.refl (r : Nat) (A C : Obj) (w : World) : Mono r A C w w := ⟨id, .inl⟩
theorem Mono.trans {r : Nat} {A C : Obj} {a b c : World} (h : Mono r A C a b) (k : Mono r A C b c) : Mono r A C a c :=
  ⟨fun x => k.1 (h.1 x), fun x => (h.2 x).elim k.2 (fun y => .inr (k.1 y))⟩
theorem Mono.of_eq {r : Nat} {A C : Obj} {w w' : World} (h : w'.heap[r]? = w.heap[r]?) : Mono r A C w w' := ⟨fun x => h.trans x, fun x => .inl (h.trans x)⟩
theorem Two.refl (B r s : Nat) (A C D E : Obj) (w : World) : Two B r s A C D E w w := ⟨Below.refl _ _, fun _ _ _ _ => rfl, Mono.refl _ _ _ _, Mono.refl _ _ _ _⟩
theorem Two.trans {B r s : Nat} {A C D E : Obj} {a b c : World} (h : Two B r s A C D E a b) (k : Two B r s A C D E b c) : Two B r s A C D E a c :=
  ⟨h.1.trans k.1, fun i hi h1 h2 => (k.2.1 i (Nat.lt_of_lt_of_le hi h.1.size) h1 h2).trans (h.2.1 i hi h1 h2), h.2.2.1.trans k.2.2.1, h.2.2.2.trans k.2.2.2⟩
theorem Two.of_below {B r s : Nat} {A C D E : Obj} {w w' : World} (h : Below w.heap.size w w') (hB : B ≤ w.heap.size) (hr : r < w.heap.size) (hs : s < w.heap.size) : Two B r s A C D E w w' :=
  ⟨h.mono hB, fun i hi _ _ => h.block i hi, Mono.of_eq (h.block r hr), Mono.of_eq (h.block s hs)⟩
/-- A store into the first block alone. -/
theorem Two.of_fst {B r s : Nat} {A C D E : Obj} {w w' : World} (h : Below r w w') (hB : B ≤ r) (hk : ∀ k, k ≠ r → w'.heap[k]? = w.heap[k]?) (hs : s ≠ r) (hC : w'.heap[r]? = some C) : Two B r s A C D E w w' :=
  ⟨h.mono hB, fun i _ h1 _ => hk i h1, ⟨fun _ => hC, fun _ => .inr hC⟩, Mono.of_eq (hk s hs)⟩
theorem Two.of_snd {B r s : Nat} {A C D E : Obj} {w w' : World} (h : Below s w w') (hB : B ≤ s) (hk : ∀ k, k ≠ s → w'.heap[k]? = w.heap[k]?) (hr : r ≠ s) (hC : w'.heap[s]? = some E) : Two B r s A C D E w w' :=
  ⟨h.mono hB, fun i _ _ h1 => hk i h1, Mono.of_eq (hk r hr), ⟨fun _ => hC, fun _ => .inr hC⟩⟩
theorem Two.keep {B r s : Nat} {A C D E : Obj} {w w' : World} (h : Two B r s A C D E w w') {k : Nat} {o : Obj} (hk : w.heap[k]? = some o) (h1 : k ≠ r) (h2 : k ≠ s) : w'.heap[k]? = some o :=
  (h.2.1 k (Array.getElem?_eq_some_iff.1 hk).1 h1 h2).trans hk

/-- Setting cells of one block, one behind the other. -/
def putAll (w : World) (r : Nat) : Nat → List Value → World
  | _, [] => w
  | o, v :: l => putAll (w.setCell ⟨r, o, none⟩ v) r (o + 1) l
theorem putAll_below (r : Nat) : ∀ (l : List Value) (o : Nat) (w : World), Below r w (putAll w r o l)
  | [], _, _ => Below.refl _ _
  | v :: l, o, w => ((Below.refl r w).setCell (p := ⟨r, o, none⟩) (Nat.le_refl _) v).trans (putAll_below r l (o + 1) _)
theorem putAll_far (r : Nat) : ∀ (l : List Value) (o : Nat) (w : World) (k : Nat), k ≠ r → (putAll w r o l).heap[k]? = w.heap[k]?
  | [], _, _, _, _ => rfl
  | v :: l, o, w, k, hk => (putAll_far r l (o + 1) _ k hk).trans (Below.heap_setCell w ⟨r, o, none⟩ v k hk)
def putLs (cs : Array Value) : Nat → List Value → Array Value
  | _, [] => cs
  | o, v :: l => putLs (cs.setIfInBounds o v) (o + 1) l
theorem putAll_blk {r : Nat} {t : TypeId} : ∀ (l : List Value) (o : Nat) (cs : Array Value) {w : World}, w.heap[r]? = some (.cells cs t (0, 0)) → (putAll w r o l).heap[r]? = some (.cells (putLs cs o l) t (0, 0))
  | [], _, _, _, h => h
  | v :: l, o, cs, _, h => putAll_blk l (o + 1) (cs.setIfInBounds o v) (blk_set h o v)
/-- A whole block written anew. -/
theorem two_fst {B r s : Nat} {a c : Array Value} {t : TypeId} {D E : Obj} {w : World} (l : List Value) (h : w.heap[r]? = some (.cells a t (0, 0)) ∨ w.heap[r]? = some (.cells c t (0, 0))) (ha : putLs a 0 l = c) (hc : putLs c 0 l = c) (hB : B ≤ r) (hs : s ≠ r) :
    (putAll w r 0 l).heap[r]? = some (.cells c t (0, 0)) ∧ Two B r s (.cells a t (0, 0)) (.cells c t (0, 0)) D E w (putAll w r 0 l) := by
  have hC : (putAll w r 0 l).heap[r]? = some (.cells c t (0, 0)) := by
    rcases h with h | h
    · have := putAll_blk l 0 a h; rwa [ha] at this
    · have := putAll_blk l 0 c h; rwa [hc] at this
  exact ⟨hC, Two.of_fst (putAll_below r l 0 w) hB (fun k hk => putAll_far r l 0 w k hk) hs hC⟩
theorem two_snd {B r s : Nat} {a c : Array Value} {t : TypeId} {A C : Obj} {w : World} (l : List Value) (h : w.heap[s]? = some (.cells a t (0, 0)) ∨ w.heap[s]? = some (.cells c t (0, 0))) (ha : putLs a 0 l = c) (hc : putLs c 0 l = c) (hB : B ≤ s) (hs : r ≠ s) :
    (putAll w s 0 l).heap[s]? = some (.cells c t (0, 0)) ∧ Two B r s A C (.cells a t (0, 0)) (.cells c t (0, 0)) w (putAll w s 0 l) := by
  have hC : (putAll w s 0 l).heap[s]? = some (.cells c t (0, 0)) := by
    rcases h with h | h
    · have := putAll_blk l 0 a h; rwa [ha] at this
    · have := putAll_blk l 0 c h; rwa [hc] at this
  exact ⟨hC, Two.of_snd (putAll_below s l 0 w) hB (fun k hk => putAll_far s l 0 w k hk) hs hC⟩
/-- Each cell of a block in one of its two states. -/
theorem two_cell {r : Nat} {a c : Array Value} {t : TypeId} {w : World} (h : w.heap[r]? = some (.cells a t (0, 0)) ∨ w.heap[r]? = some (.cells c t (0, 0))) (i : Nat) (ha : i < a.size) (hc : i < c.size) : (∃ v, w.cell? ⟨r, i, none⟩ = some v) ∧ w.frozen? ⟨r, i, none⟩ = false := by
  rcases h with h | h
  · exact ⟨⟨_, (blk_cell h i).trans (Array.getElem?_eq_getElem ha)⟩, blk_frozen h i⟩
  · exact ⟨⟨_, (blk_cell h i).trans (Array.getElem?_eq_getElem hc)⟩, blk_frozen h i⟩

end Go.Proofs.YtkcpgcaccgahaaaGreatDoor
