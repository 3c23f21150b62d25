/- The walks of llrb's ascendGreaterOrEqual and AscendGreaterOrEqual: the iterator is called for the items that do not stand ahead of the pivot, in their order, till it says no. -/
import Derived.Test.YtgjocdnpephcgaaGreatDoorIxA
namespace Go.Proofs.YtgjocdnpephcgaaGreatDoor
open Go.RowKit

/-- The items that are visited. -/
def vis (p : Itm) (L : List Itm) : List Itm := L.filter fun y => !dLt y.ds p.ds
theorem vis_node_ge {p x : Itm} (h : dLt x.ds p.ds = false) (l r : List Itm) : vis p (l ++ x :: r) = vis p l ++ x :: vis p r := by
  simp [vis, List.filter_append, h]
theorem vis_node_lt {p x : Itm} (h : dLt x.ds p.ds = true) (l r : List Itm) (hl : ∀ z ∈ l, dLe z.ds x.ds) : vis p (l ++ x :: r) = vis p r := by
  have h1 : l.filter (fun y => !dLt y.ds p.ds) = [] := by
    rw [List.filter_eq_nil_iff]
    intro z hz
    have : dLt z.ds p.ds = true := by
      cases hq : dLt z.ds p.ds with
      | true => rfl
      | false =>
        have h1 : dLe p.ds x.ds := dLe_trans hq (hl z hz)
        have h2 : dLt x.ds p.ds = false := h1
        rw [h] at h2; cases h2
    simp [this]
  simp [vis, List.filter_append, h1, h]

set_option maxHeartbeats 8000000 in
set_option maxRecDepth 100000 in
/-- ascendGreaterOrEqual, the iterator with 2 captured variables. -/
theorem asc2_calls (t0 : Option Addr) (F : FuncId) (ca cb : Value) (p : Itm) (V : List Itm) (hent : ∀ args w, (callFunc F args).run Tryz.prog w = .ok (.enter F args) w) (I : Nat → World → Prop) (J : World → Prop) (hbel : ∀ k W W', I k W → Below W.heap.size W W' → I k W')
    (hcall : ∀ k (hk : k < V.length) W, I k W → Calls Tryz.prog F #[V[k].val, ca, cb] W fun e W' => (e = .returned (.bool true) ∧ I (k + 1) W') ∨ (e = .returned (.bool false) ∧ J W'))
    (T : LT) : Sorted T.items → (∀ k W, I k W → T.In W ∧ ItsOk W T.items ∧ RdB W p.A p.ds.length p.c p.ds) → ∀ k W, I k W → (∀ i, i < (vis p T.items).length → V[k + i]? = (vis p T.items)[i]?) →
    Calls Tryz.prog 81 #[.pointer t0, T.ptr, p.val, (.func (.func F) #[] #[ca, cb])] W fun e W' => (e = .returned (.bool true) ∧ I (k + (vis p T.items).length) W') ∨ (e = .returned (.bool false) ∧ J W') := by
  induction T with
  | nil =>
    intro _ _ k W hI _
    have HI := Kp.mk hI
    clear hI hcall hbel
    show Calls Tryz.prog 81 #[.pointer t0, .pointer none, p.val, (.func (.func F) #[] #[ca, cb])] W _
    go_enter Tryz.func81, Tryz.ntmps81
    go_wp2_with fail
    go_ret
    exact .inl ⟨rfl, HI.out⟩
  | node b x kk l r ihl ihr =>
    intro hs hT k W hI hV
    have hsl : Sorted l.items := (List.pairwise_append.1 hs).1
    have hsr : Sorted r.items := (List.pairwise_cons.1 (List.pairwise_append.1 hs).2.1).2
    have hle : ∀ z ∈ l.items, dLe z.ds x.ds := fun z hz => (List.pairwise_append.1 hs).2.2 z hz x (by simp)
    obtain ⟨ul, hul⟩ := l.ptr_some
    obtain ⟨ur, hur⟩ := r.ptr_some
    have HIL := Kp.mk (ihl hsl (fun k W h => ⟨(hT k W h).1.2.1, fun z hz => (hT k W h).2.1 z (by simp [LT.items, hz]), (hT k W h).2.2⟩))
    have HIR := Kp.mk (ihr hsr (fun k W h => ⟨(hT k W h).1.2.2, fun z hz => (hT k W h).2.1 z (by simp [LT.items, hz]), (hT k W h).2.2⟩))
    rw [hul] at HIL
    rw [hur] at HIR
    have HC : Kp (∀ k W, I k W → W.heap[b]? = some (.cells #[x.val, .pointer ul, .pointer ur, .bool kk] 122 (0, 0))) := ⟨fun k W h => by have := (hT k W h).1.1; simp only [nodeCs, hul, hur] at this; exact this⟩
    have HL : Kp (∀ k W, I k W → Calls Tryz.prog 85 #[x.val, p.val] W fun e w' => e = .returned (.bool (dLt x.ds p.ds)) ∧ Below W.heap.size W w') := ⟨fun k W h => less_calls x p W ((hT k W h).2.1 x (by simp [LT.items])) (hT k W h).2.2⟩
    have HB := Kp.mk hbel
    have HF := Kp.mk hcall
    have HV := Kp.mk hV
    have HI := Kp.mk hI
    have HLE := Kp.mk hle
    clear hs hT hV hI hsl hsr hle ihl ihr hul hur hbel hcall
    show Calls Tryz.prog 81 #[.pointer t0, .pointer (some ⟨b, 0, none⟩), p.val, (.func (.func F) #[] #[ca, cb])] W _
    have c0 := blk_cell (HC.out k W HI.out) 0
    go_enter Tryz.func81, Tryz.ntmps81
    go_wp2_with fail
    refine (HL.out k W HI.out).mono ?_
    rintro e w1 ⟨rfl, hb⟩
    have HI1 := Kp.mk (HB.out k W w1 HI.out hb)
    clear hb c0 HL
    cases hlt : dLt x.ds p.ds with
    | true =>
      have hvis : vis p (LT.node b x kk l r).items = vis p r.items := vis_node_lt hlt _ _ HLE.out
      have HVV := Kp.mk hvis
      clear hvis hlt
      have c2 := blk_cell (HC.out k w1 HI1.out) 2
      have HVR : Kp (∀ i, i < (vis p r.items).length → V[k + i]? = (vis p r.items)[i]?) := ⟨by rw [← HVV.out]; exact HV.out⟩
      go_wp2_with fail
      clear c2
      refine (HIR.out k w1 HI1.out HVR.out).mono ?_
      rintro e w2 (⟨rfl, hi⟩ | ⟨rfl, hj⟩)
      · have H2 := Kp.mk hi
        clear hi
        go_wp2_with fail
        go_ret
        exact .inl ⟨rfl, by rw [HVV.out]; exact H2.out⟩
      · have H2 := Kp.mk hj
        clear hj
        go_wp2_with fail
        go_ret
        exact .inr ⟨rfl, H2.out⟩
    | false =>
      have hvis : vis p (LT.node b x kk l r).items = vis p l.items ++ x :: vis p r.items := vis_node_ge hlt _ _
      have HVV := Kp.mk hvis
      clear hvis hlt
      have c1 := blk_cell (HC.out k w1 HI1.out) 1
      have HVL : Kp (∀ i, i < (vis p l.items).length → V[k + i]? = (vis p l.items)[i]?) := ⟨fun i hi => by
        have := HV.out i (by rw [HVV.out, List.length_append]; omega)
        rw [this, HVV.out, List.getElem?_append_left hi]⟩
      have HVX : Kp (V[k + (vis p l.items).length]? = some x) := ⟨by
        have := HV.out (vis p l.items).length (by rw [HVV.out, List.length_append]; simp)
        rw [this, HVV.out, List.getElem?_append_right (Nat.le_refl _), Nat.sub_self]; rfl⟩
      have HVR : Kp (∀ i, i < (vis p r.items).length → V[k + (vis p l.items).length + 1 + i]? = (vis p r.items)[i]?) := ⟨fun i hi => by
        have := HV.out ((vis p l.items).length + 1 + i) (by rw [HVV.out, List.length_append, List.length_cons]; omega)
        rw [show k + (vis p l.items).length + 1 + i = k + ((vis p l.items).length + 1 + i) by omega, this, HVV.out, List.getElem?_append_right (by omega), show (vis p l.items).length + 1 + i - (vis p l.items).length = i + 1 by omega]; rfl⟩
      go_wp2_with fail
      clear c1
      refine (HIL.out k w1 HI1.out HVL.out).mono ?_
      rintro e w2 (⟨rfl, hi⟩ | ⟨rfl, hj⟩)
      · have H2 := Kp.mk hi
        clear hi
        have c0 := blk_cell (HC.out _ w2 H2.out) 0
        have hkl := (List.getElem?_eq_some_iff.1 HVX.out).1
        have hcl := HF.out _ hkl w2 H2.out
        rw [(List.getElem?_eq_some_iff.1 HVX.out).2] at hcl
        have HCL := Kp.mk hcl
        clear hcl hkl
        go_wp2_with fail
        clear c0
        refine HCL.out.mono ?_
        rintro e w3 (⟨rfl, hi⟩ | ⟨rfl, hj⟩)
        · have H3 := Kp.mk hi
          clear hi HCL
          have c2 := blk_cell (HC.out _ w3 H3.out) 2
          go_wp2_with fail
          clear c2
          refine (HIR.out _ w3 H3.out HVR.out).mono ?_
          rintro e w4 (⟨rfl, hi⟩ | ⟨rfl, hj⟩)
          · have H4 := Kp.mk hi
            clear hi
            go_wp2_with fail
            go_ret
            exact .inl ⟨rfl, by rw [HVV.out, List.length_append, List.length_cons, show k + ((vis p l.items).length + ((vis p r.items).length + 1)) = k + (vis p l.items).length + 1 + (vis p r.items).length by omega]; exact H4.out⟩
          · have H4 := Kp.mk hj
            clear hj
            go_wp2_with fail
            go_ret
            exact .inr ⟨rfl, H4.out⟩
        · have H3 := Kp.mk hj
          clear hj HCL
          go_wp2_with fail
          go_ret
          exact .inr ⟨rfl, H3.out⟩
      · have H2 := Kp.mk hj
        clear hj
        go_wp2_with fail
        go_ret
        exact .inr ⟨rfl, H2.out⟩

set_option maxHeartbeats 2000000 in
set_option maxRecDepth 100000 in
/-- AscendGreaterOrEqual, the iterator with 2 captured variables. -/
theorem ascend2_calls (g : Nat) (F : FuncId) (ca cb : Value) (p : Itm) (V : List Itm) (hent : ∀ args w, (callFunc F args).run Tryz.prog w = .ok (.enter F args) w) (I : Nat → World → Prop) (J : World → Prop) (hbel : ∀ k W W', I k W → Below W.heap.size W W' → I k W')
    (hcall : ∀ k (hk : k < V.length) W, I k W → Calls Tryz.prog F #[V[k].val, ca, cb] W fun e W' => (e = .returned (.bool true) ∧ I (k + 1) W') ∨ (e = .returned (.bool false) ∧ J W'))
    (T : LT) (hs : Sorted T.items) (hT : ∀ k W, I k W → T.In W ∧ ItsOk W T.items ∧ RdB W p.A p.ds.length p.c p.ds) (hV : V = vis p T.items) (W : World) (hI : I 0 W) (z : Int) (hg : W.heap[g]? = some (.cells #[.int .i64 z, T.ptr] 85 (0, 0))) :
    Calls Tryz.prog 69 #[.pointer (some ⟨g, 0, none⟩), p.val, (.func (.func F) #[] #[ca, cb])] W fun e W' => e = .returned (.tuple #[]) ∧ (I V.length W' ∨ J W') := by
  have HA := Kp.mk (asc2_calls (some ⟨g, 0, none⟩) F ca cb p V hent I J hbel hcall T hs hT 0 W hI (fun i hi => by rw [Nat.zero_add, hV]))
  obtain ⟨u, hu⟩ := T.ptr_some
  rw [hu] at HA hg
  have c1 := blk_cell hg 1
  have HVV := Kp.mk hV
  clear hent hbel hcall hs hT hV hI hg hu
  go_enter Tryz.func69, Tryz.ntmps69
  go_wp2_with fail
  refine HA.out.mono ?_
  rintro e w1 (⟨rfl, hi⟩ | ⟨rfl, hj⟩)
  · have H1 := Kp.mk hi
    clear hi HA c1
    go_wp2_with fail
    go_end0
    exact ⟨rfl, .inl (by have := H1.out; rw [Nat.zero_add, ← HVV.out] at this; exact this)⟩
  · have H1 := Kp.mk hj
    clear hj HA c1
    go_wp2_with fail
    go_end0
    exact ⟨rfl, .inr H1.out⟩

set_option maxHeartbeats 8000000 in
set_option maxRecDepth 100000 in
/-- ascendGreaterOrEqual, the iterator with 3 captured variables. -/
theorem asc3_calls (t0 : Option Addr) (F : FuncId) (ca cb cc : Value) (p : Itm) (V : List Itm) (hent : ∀ args w, (callFunc F args).run Tryz.prog w = .ok (.enter F args) w) (I : Nat → World → Prop) (J : World → Prop) (hbel : ∀ k W W', I k W → Below W.heap.size W W' → I k W')
    (hcall : ∀ k (hk : k < V.length) W, I k W → Calls Tryz.prog F #[V[k].val, ca, cb, cc] W fun e W' => (e = .returned (.bool true) ∧ I (k + 1) W') ∨ (e = .returned (.bool false) ∧ J W'))
    (T : LT) : Sorted T.items → (∀ k W, I k W → T.In W ∧ ItsOk W T.items ∧ RdB W p.A p.ds.length p.c p.ds) → ∀ k W, I k W → (∀ i, i < (vis p T.items).length → V[k + i]? = (vis p T.items)[i]?) →
    Calls Tryz.prog 81 #[.pointer t0, T.ptr, p.val, (.func (.func F) #[] #[ca, cb, cc])] W fun e W' => (e = .returned (.bool true) ∧ I (k + (vis p T.items).length) W') ∨ (e = .returned (.bool false) ∧ J W') := by
  induction T with
  | nil =>
    intro _ _ k W hI _
    have HI := Kp.mk hI
    clear hI hcall hbel
    show Calls Tryz.prog 81 #[.pointer t0, .pointer none, p.val, (.func (.func F) #[] #[ca, cb, cc])] W _
    go_enter Tryz.func81, Tryz.ntmps81
    go_wp2_with fail
    go_ret
    exact .inl ⟨rfl, HI.out⟩
  | node b x kk l r ihl ihr =>
    intro hs hT k W hI hV
    have hsl : Sorted l.items := (List.pairwise_append.1 hs).1
    have hsr : Sorted r.items := (List.pairwise_cons.1 (List.pairwise_append.1 hs).2.1).2
    have hle : ∀ z ∈ l.items, dLe z.ds x.ds := fun z hz => (List.pairwise_append.1 hs).2.2 z hz x (by simp)
    obtain ⟨ul, hul⟩ := l.ptr_some
    obtain ⟨ur, hur⟩ := r.ptr_some
    have HIL := Kp.mk (ihl hsl (fun k W h => ⟨(hT k W h).1.2.1, fun z hz => (hT k W h).2.1 z (by simp [LT.items, hz]), (hT k W h).2.2⟩))
    have HIR := Kp.mk (ihr hsr (fun k W h => ⟨(hT k W h).1.2.2, fun z hz => (hT k W h).2.1 z (by simp [LT.items, hz]), (hT k W h).2.2⟩))
    rw [hul] at HIL
    rw [hur] at HIR
    have HC : Kp (∀ k W, I k W → W.heap[b]? = some (.cells #[x.val, .pointer ul, .pointer ur, .bool kk] 122 (0, 0))) := ⟨fun k W h => by have := (hT k W h).1.1; simp only [nodeCs, hul, hur] at this; exact this⟩
    have HL : Kp (∀ k W, I k W → Calls Tryz.prog 85 #[x.val, p.val] W fun e w' => e = .returned (.bool (dLt x.ds p.ds)) ∧ Below W.heap.size W w') := ⟨fun k W h => less_calls x p W ((hT k W h).2.1 x (by simp [LT.items])) (hT k W h).2.2⟩
    have HB := Kp.mk hbel
    have HF := Kp.mk hcall
    have HV := Kp.mk hV
    have HI := Kp.mk hI
    have HLE := Kp.mk hle
    clear hs hT hV hI hsl hsr hle ihl ihr hul hur hbel hcall
    show Calls Tryz.prog 81 #[.pointer t0, .pointer (some ⟨b, 0, none⟩), p.val, (.func (.func F) #[] #[ca, cb, cc])] W _
    have c0 := blk_cell (HC.out k W HI.out) 0
    go_enter Tryz.func81, Tryz.ntmps81
    go_wp2_with fail
    refine (HL.out k W HI.out).mono ?_
    rintro e w1 ⟨rfl, hb⟩
    have HI1 := Kp.mk (HB.out k W w1 HI.out hb)
    clear hb c0 HL
    cases hlt : dLt x.ds p.ds with
    | true =>
      have hvis : vis p (LT.node b x kk l r).items = vis p r.items := vis_node_lt hlt _ _ HLE.out
      have HVV := Kp.mk hvis
      clear hvis hlt
      have c2 := blk_cell (HC.out k w1 HI1.out) 2
      have HVR : Kp (∀ i, i < (vis p r.items).length → V[k + i]? = (vis p r.items)[i]?) := ⟨by rw [← HVV.out]; exact HV.out⟩
      go_wp2_with fail
      clear c2
      refine (HIR.out k w1 HI1.out HVR.out).mono ?_
      rintro e w2 (⟨rfl, hi⟩ | ⟨rfl, hj⟩)
      · have H2 := Kp.mk hi
        clear hi
        go_wp2_with fail
        go_ret
        exact .inl ⟨rfl, by rw [HVV.out]; exact H2.out⟩
      · have H2 := Kp.mk hj
        clear hj
        go_wp2_with fail
        go_ret
        exact .inr ⟨rfl, H2.out⟩
    | false =>
      have hvis : vis p (LT.node b x kk l r).items = vis p l.items ++ x :: vis p r.items := vis_node_ge hlt _ _
      have HVV := Kp.mk hvis
      clear hvis hlt
      have c1 := blk_cell (HC.out k w1 HI1.out) 1
      have HVL : Kp (∀ i, i < (vis p l.items).length → V[k + i]? = (vis p l.items)[i]?) := ⟨fun i hi => by
        have := HV.out i (by rw [HVV.out, List.length_append]; omega)
        rw [this, HVV.out, List.getElem?_append_left hi]⟩
      have HVX : Kp (V[k + (vis p l.items).length]? = some x) := ⟨by
        have := HV.out (vis p l.items).length (by rw [HVV.out, List.length_append]; simp)
        rw [this, HVV.out, List.getElem?_append_right (Nat.le_refl _), Nat.sub_self]; rfl⟩
      have HVR : Kp (∀ i, i < (vis p r.items).length → V[k + (vis p l.items).length + 1 + i]? = (vis p r.items)[i]?) := ⟨fun i hi => by
        have := HV.out ((vis p l.items).length + 1 + i) (by rw [HVV.out, List.length_append, List.length_cons]; omega)
        rw [show k + (vis p l.items).length + 1 + i = k + ((vis p l.items).length + 1 + i) by omega, this, HVV.out, List.getElem?_append_right (by omega), show (vis p l.items).length + 1 + i - (vis p l.items).length = i + 1 by omega]; rfl⟩
      go_wp2_with fail
      clear c1
      refine (HIL.out k w1 HI1.out HVL.out).mono ?_
      rintro e w2 (⟨rfl, hi⟩ | ⟨rfl, hj⟩)
      · have H2 := Kp.mk hi
        clear hi
        have c0 := blk_cell (HC.out _ w2 H2.out) 0
        have hkl := (List.getElem?_eq_some_iff.1 HVX.out).1
        have hcl := HF.out _ hkl w2 H2.out
        rw [(List.getElem?_eq_some_iff.1 HVX.out).2] at hcl
        have HCL := Kp.mk hcl
        clear hcl hkl
        go_wp2_with fail
        clear c0
        refine HCL.out.mono ?_
        rintro e w3 (⟨rfl, hi⟩ | ⟨rfl, hj⟩)
        · have H3 := Kp.mk hi
          clear hi HCL
          have c2 := blk_cell (HC.out _ w3 H3.out) 2
          go_wp2_with fail
          clear c2
          refine (HIR.out _ w3 H3.out HVR.out).mono ?_
          rintro e w4 (⟨rfl, hi⟩ | ⟨rfl, hj⟩)
          · have H4 := Kp.mk hi
            clear hi
            go_wp2_with fail
            go_ret
            exact .inl ⟨rfl, by rw [HVV.out, List.length_append, List.length_cons, show k + ((vis p l.items).length + ((vis p r.items).length + 1)) = k + (vis p l.items).length + 1 + (vis p r.items).length by omega]; exact H4.out⟩
          · have H4 := Kp.mk hj
            clear hj
            go_wp2_with fail
            go_ret
            exact .inr ⟨rfl, H4.out⟩
        · have H3 := Kp.mk hj
          clear hj HCL
          go_wp2_with fail
          go_ret
          exact .inr ⟨rfl, H3.out⟩
      · have H2 := Kp.mk hj
        clear hj
        go_wp2_with fail
        go_ret
        exact .inr ⟨rfl, H2.out⟩

set_option maxHeartbeats 2000000 in
set_option maxRecDepth 100000 in
/-- AscendGreaterOrEqual, the iterator with 3 captured variables. -/
theorem ascend3_calls (g : Nat) (F : FuncId) (ca cb cc : Value) (p : Itm) (V : List Itm) (hent : ∀ args w, (callFunc F args).run Tryz.prog w = .ok (.enter F args) w) (I : Nat → World → Prop) (J : World → Prop) (hbel : ∀ k W W', I k W → Below W.heap.size W W' → I k W')
    (hcall : ∀ k (hk : k < V.length) W, I k W → Calls Tryz.prog F #[V[k].val, ca, cb, cc] W fun e W' => (e = .returned (.bool true) ∧ I (k + 1) W') ∨ (e = .returned (.bool false) ∧ J W'))
    (T : LT) (hs : Sorted T.items) (hT : ∀ k W, I k W → T.In W ∧ ItsOk W T.items ∧ RdB W p.A p.ds.length p.c p.ds) (hV : V = vis p T.items) (W : World) (hI : I 0 W) (z : Int) (hg : W.heap[g]? = some (.cells #[.int .i64 z, T.ptr] 85 (0, 0))) :
    Calls Tryz.prog 69 #[.pointer (some ⟨g, 0, none⟩), p.val, (.func (.func F) #[] #[ca, cb, cc])] W fun e W' => e = .returned (.tuple #[]) ∧ (I V.length W' ∨ J W') := by
  have HA := Kp.mk (asc3_calls (some ⟨g, 0, none⟩) F ca cb cc p V hent I J hbel hcall T hs hT 0 W hI (fun i hi => by rw [Nat.zero_add, hV]))
  obtain ⟨u, hu⟩ := T.ptr_some
  rw [hu] at HA hg
  have c1 := blk_cell hg 1
  have HVV := Kp.mk hV
  clear hent hbel hcall hs hT hV hI hg hu
  go_enter Tryz.func69, Tryz.ntmps69
  go_wp2_with fail
  refine HA.out.mono ?_
  rintro e w1 (⟨rfl, hi⟩ | ⟨rfl, hj⟩)
  · have H1 := Kp.mk hi
    clear hi HA c1
    go_wp2_with fail
    go_end0
    exact ⟨rfl, .inl (by have := H1.out; rw [Nat.zero_add, ← HVV.out] at this; exact this)⟩
  · have H1 := Kp.mk hj
    clear hj HA c1
    go_wp2_with fail
    go_end0
    exact ⟨rfl, .inr H1.out⟩

end Go.Proofs.YtgjocdnpephcgaaGreatDoor
