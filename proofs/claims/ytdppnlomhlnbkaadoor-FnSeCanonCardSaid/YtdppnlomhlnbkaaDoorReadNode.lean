/- The walk of util.ReadNode over a bytes.Reader. -/
import Derived.Test.YtdppnlomhlnbkaaDoorLdImpl
import Derived.Test.YtdppnlomhlnbkaaDoorReadBlock
namespace Go.Proofs.YtdppnlomhlnbkaaDoor
open Go.RowKit

/-- An error that is not io.EOF: one of errors.New with another text, or one of another type. -/
def OtherErr (v : Value) (w : World) : Prop := NotEof v w ∨ ∃ T u, T ≠ 128 ∧ v = .iface T u
theorem OtherErr.below {v : Value} {w w1 : World} (h : OtherErr v w) (hb : Below w.heap.size w w1) : OtherErr v w1 := h.imp (·.below hb) id
theorem OtherErr.iface {v : Value} {w : World} (h : OtherErr v w) : ∃ T u, v = .iface T u := by
  rcases h with ⟨t, _, h⟩ | ⟨T, u, _, rfl⟩
  · exact h.iface
  · exact ⟨_, _, rfl⟩
theorem eql_types {ti : TypeId} {ms : Array (String × TypeId)} {T T' : TypeId} (u u' : Value) (h : T ≠ T') (hi : Tryd.prog.underlying ti = some (.interface ms)) (w : World) : (binOp .eql ti (.iface T u) (.iface T' u')).run Tryd.prog w = .ok (.bool false) w := by
  have h2 : ∀ d : Nat, (Op.equalIn (d + 1) ti (.iface T u) (.iface T' u')).run Tryd.prog w = .ok false w := fun d => by
    simp [Op.equalIn, run_underlying hi, h]
  simp only [binOp]
  simp [Op.equal, Op.maxDepth, h2 9999]

set_option maxHeartbeats 2000000 in
set_option maxRecDepth 100000 in
/-- impl.kind of such an error. -/
theorem kindOther_calls (ve v : Value) (w : World) (hk : OtherErr v w) (hc : w.cell? ⟨1, 0, none⟩ = some ve) (hE : ErrV ve txEof w) :
    Calls Tryd.prog 29 #[v] w fun e w' => e = .returned (.int .u8 2) ∧ Below w.heap.size w w' := by
  rcases hk with hk | ⟨T, u, hT, rfl⟩
  · exact kind_calls ve v 2 w (.inr (.inr ⟨hk, rfl⟩)) hc hE
  · obtain ⟨a, s, c, t, rfl, _⟩ := hE
    have hq := eql_types u (.pointer (some a)) hT Tryd.underlying59
    go_enter Tryd.func29, Tryd.ntmps29
    go_wp2
    go_ret
    exact ⟨rfl, Below.refl _ _⟩

theorem Ex.ext {P Q : Nat → Prop} {w w1 w2 : World} (h : Ex P w w1) (k : Ex Q w1 w2) (hq : ∀ j, j < w.heap.size → Q j → P j) : Ex P w w2 :=
  ⟨k.os.trans h.os, k.tape.trans h.tape, k.output.trans h.output, Nat.le_trans h.size k.size, fun i hi hp => (k.block i (Nat.lt_of_lt_of_le hi h.size) (fun x => hp (hq i hi x))).trans (h.block i hi hp)⟩
/-- A store of what is there already. -/
theorem bel_same {w : World} {r : Nat} {v : Value} {t : TypeId} (h : w.heap[r]? = some (.cells #[v] t (0, 0))) : Below w.heap.size w (w.setCell ⟨r, 0, none⟩ v) := by
  have hb := (Below.refl r w).setCell (p := ⟨r, 0, none⟩) (Nat.le_refl _) v
  refine ⟨hb.os, hb.tape, hb.output, hb.size, fun k hk => ?_⟩
  by_cases he : k = r
  · subst he; rw [h, blk_set h 0 v]; rfl
  · exact Below.heap_setCell w ⟨r, 0, none⟩ v k he

/-- Bytes do not lie in a block that holds a string. -/
theorem RdB.exS {P : Nat → Prop} {w w1 : World} {A : Option Addr} {n c : Nat} {bs : List UInt8} (h : RdB w A n c bs) (hb : Ex P w w1) (hp : ∀ k, P k → ∃ S t, w.heap[k]? = some (.cells #[.string S] t (0, 0))) : RdB w1 A n c bs :=
  ⟨h.len, h.cap, h.most, fun h0 => by
    obtain ⟨g', o', e, hc⟩ := h.lies h0
    refine ⟨g', o', e, fun i hi => (World.cell?_of_block (a := ⟨g', o' + i, none⟩) (hb.block g' (World.block_lt_of_cell? w _ (hc i hi)) fun hP => ?_)).trans (hc i hi)⟩
    obtain ⟨S, t, hblk⟩ := hp g' hP
    have h1 := hc i hi
    rw [blk_cell hblk (o' + i)] at h1
    generalize o' + i = oi at h1
    rcases oi with _ | m
    · simp at h1
    · simp at h1⟩

/-- What util.ReadNode hands back. -/
def RnEnd (g ga n c i : Nat) (r : LongR) (ve : Value) (w : World) (e : Ending) (w' : World) : Prop :=
  (∃ j q, RdrAt w' g ga n c j q) ∧ Ex (· = g) w w' ∧
  match r with
  | .ended _ => ∃ s A m cap, e = .returned (.tuple #[.agg #[.string s], .slice A m cap, ve])
  | .left => False
  | .failed => ∃ s A m cap v, e = .returned (.tuple #[.agg #[.string s], .slice A m cap, v]) ∧ OtherErr v w'
  | .read d N => match cdRead d with
    | none => ∃ s A m cap v, e = .returned (.tuple #[.agg #[.string s], .slice A m cap, v]) ∧ OtherErr v w'
    | some (_, _, _, _, k) => (∃ A cap, e = .returned (.tuple #[.agg #[.string (strB (d.take k))], .slice A (d.length - k) cap, .nilIface]) ∧ RdB w' A (d.length - k) cap (d.drop k)) ∧ ∃ q, RdrAt w' g ga n c (i + N) q

/-- What the last line's operations leave. -/
def rnR (r : Nat) (S : ByteArray) (A A' : Option Addr) (m cap k : Nat) (j : Nat) (v : Value) (w : World) : Prop :=
  match j with
  | 0 => v = .agg #[.string S]
  | 1 => v = .slice A m cap
  | 2 => v = .int .i64 k
  | 3 => v = .slice A' (m - k) (cap - k)
  | 4 => w.heap[r]? = some (.cells #[.string S] 57 (0, 0))
  | 5 => v = .slice A' (m - k) (cap - k)
  | 6 => v = .nilIface
  | _ => True

set_option maxHeartbeats 8000000 in
set_option maxRecDepth 100000 in
/-- util.ReadNode. -/
theorem readNode_calls (g ga n c i : Nat) (q : Int) (bs : List UInt8) (ve vu vo vn : Value) (ze : Bool) (most : Nat) (w : World) (hg : RdrAt w g ga n c i q) (hr : RdB w (some ⟨ga, 0, none⟩) n c bs) (hag : ga < g) (hn : n ≤ 2147483647) (hlt : 1 < g) (he : ∀ w', Ex (· = g) w w' → RdErrs ve vu vo vn w')
    (hl : ∀ w', Ex (· = g) w w' → ∃ v, w'.cell? ⟨6, 0, none⟩ = some v ∧ NotEof v w') (hc : ∀ w', Ex (· = g) w w' → CdErrs w') (hm : most ≤ 33554432) (hnl : longRead (bs.drop i) ze most ≠ .left) :
    Calls Tryd.prog 36 #[.iface 65 (.pointer (some ⟨g, 0, none⟩)), .bool ze, .int .u64 most] w fun e w' => RnEnd g ga n c i (longRead (bs.drop i) ze most) ve w e w' := by
  have hgw : g < w.heap.size := (Array.getElem?_eq_some_iff.1 hg).1
  have hal := fun ob => (Ex.of_below (P := (· = g)) (bel_alloc (Below.refl w.heap.size w) ob))
  have HL := Kp.mk (fun ob => ldRead_calls g ga n c i q bs ve vu vo vn ze most (w.alloc ob) (blk_keep hg (bel_alloc (Below.refl _ _) ob)) (hr.below (bel_alloc (Below.refl _ _) ob)) hag (by omega) hlt (fun w' h => he w' ((hal ob).trans h)) (fun w' h => hl w' ((hal ob).trans h)) hm hnl)
  have hrl := hr.len
  have hdl : (bs.drop i).length ≤ 2147483647 := by rw [List.length_drop]; omega
  have HX := Kp.mk (And.intro hgw hdl)
  have HC := Kp.mk hc
  obtain ⟨Te, ue, rfl⟩ := (he w (Ex.refl _ _)).eofE.iface
  clear hg hr hag hn hlt he hl hc hm hnl hal hrl hdl
  go_enter Tryd.func36, Tryd.ntmps36
  go_wp2_with fail
  refine (HL.out _).mono ?_
  rintro e w1 ⟨hj, hb, hu⟩
  have HR1 := Kp.mk (hb.keep (blk_new (w := w) (o := .cells #[.string ⟨#[]⟩] 57) (Below.refl _ _)) (Nat.ne_of_gt hgw))
  have HB1 : Kp (Ex (· = g) w w1) := ⟨(Ex.of_below (bel_alloc (Below.refl _ _) _)).trans hb⟩
  have HJ := Kp.mk hj
  have hr1 : w.heap.size < w1.heap.size := (Array.getElem?_eq_some_iff.1 HR1.out).1
  have c0 := blk_cell HR1.out 0
  have f0 := blk_frozen HR1.out 0
  clear hb hj HL
  cases hrd : longRead (bs.drop i) ze most with
  | left => rw [hrd] at hu; exact hu.elim
  | ended k =>
    rw [hrd] at hu
    obtain rfl : e = _ := hu
    have HM := Kp.mk hrd
    clear hrd
    go_wp2_with fail
    refine bodyPost_ret (res_cell3 rfl _ _ w.heap.size 57 #[.string ⟨#[]⟩] _ rfl (blk_set HR1.out 0 _) Tryd.underlying57 rfl (by kernel_rfl)) rfl ?_
    have hsm := bel_same HR1.out
    obtain ⟨j, q, hj⟩ := HJ.out
    exact ⟨⟨j, q, blk_keep hj hsm⟩, HB1.out.trans (Ex.of_below hsm), by rw [HM.out]; exact ⟨_, _, _, _, rfl⟩⟩
  | failed =>
    rw [hrd] at hu
    obtain ⟨v, rfl, hv⟩ := hu
    have HV := Kp.mk hv
    have HM := Kp.mk hrd
    obtain ⟨T, u, rfl⟩ : ∃ T u, v = .iface T u := by obtain ⟨t, _, h⟩ := hv; exact h.iface
    clear hrd hv
    go_wp2_with fail
    refine bodyPost_ret (res_cell3 rfl _ _ w.heap.size 57 #[.string ⟨#[]⟩] _ rfl (blk_set HR1.out 0 _) Tryd.underlying57 rfl (by kernel_rfl)) rfl ?_
    have hsm := bel_same HR1.out
    obtain ⟨j, q, hj⟩ := HJ.out
    exact ⟨⟨j, q, blk_keep hj hsm⟩, HB1.out.trans (Ex.of_below hsm), by rw [HM.out]; exact ⟨_, _, _, _, _, rfl, .inl (HV.out.below hsm)⟩⟩
  | read d N =>
    have hdl := long_dle hrd
    have HM := Kp.mk hrd
    rw [hrd] at hu
    obtain ⟨⟨A, cap, rfl, hr⟩, q1, hq1⟩ := hu
    have HF := Kp.mk (cidFrom_calls A _ cap d w1 hr (HC.out w1 HB1.out) (by have := HX.out.2; omega))
    have HRD := Kp.mk (And.intro hr hq1)
    clear hrd hr hq1 hdl
    go_wp2_with fail
    refine HF.out.mono ?_
    rintro e w2 ⟨hu, hb⟩
    have HR2 := Kp.mk (blk_keep HR1.out hb)
    have HB2 : Kp (Ex (· = g) w w2) := ⟨HB1.out.trans (Ex.of_below hb)⟩
    have HD2 := Kp.mk (And.intro (HRD.out.1.below hb) (blk_keep HRD.out.2 hb))
    have hr2 : w.heap.size < w2.heap.size := (Array.getElem?_eq_some_iff.1 HR2.out).1
    clear hb HF HRD HR1 HB1 c0 f0 HJ hr1
    unfold CfEnd at hu
    cases hcd : cdRead d with
    | none =>
      rw [hcd] at hu
      obtain ⟨v, s1, T, u, hT, rfl⟩ := hu
      have HT := Kp.mk hT
      have HCD := Kp.mk hcd
      have c0 := fun ob => blk_cell (blk_keep HR2.out (bel_alloc (Below.refl _ _) ob)) 0
      have f0 := fun ob => blk_frozen (blk_keep HR2.out (bel_alloc (Below.refl _ _) ob)) 0
      clear hT hcd
      go_wp2_with fail
      refine bodyPost_ret (res_cell3 rfl _ _ w.heap.size 57 #[.string ⟨#[]⟩] _ rfl (blk_keep (blk_set HR2.out 0 _) (bel_alloc (Below.refl _ _) _)) Tryd.underlying57 rfl (by kernel_rfl)) rfl ?_
      have hsm := bel_then (bel_same HR2.out) (bel_alloc (Below.refl _ _) (.cells #[.string s1] 57))
      exact ⟨⟨_, _, blk_keep HD2.out.2 hsm⟩, HB2.out.trans (Ex.of_below hsm), by rw [HM.out]; simp only; rw [HCD.out]; exact ⟨_, _, _, _, _, rfl, .inr ⟨T, u, by rw [HT.out]; decide, rfl⟩⟩⟩
    | some p =>
      obtain ⟨v, codec, code, dg, k⟩ := p
      rw [hcd] at hu
      obtain rfl : e = _ := hu
      have HCD := Kp.mk hcd
      have hkd := (cdRead_le hcd).1
      obtain ⟨A', hcut, hpart⟩ := rd_cut 62 .i64 Tryd.underlying62 A d.length cap k hkd
      have HPT := Kp.mk hpart
      have HQ := Kp.mk (blk_new (w := w2) (o := .cells #[.string (strB (d.take k))] 57) (Below.refl _ _))
      have HR3 := Kp.mk (blk_keep HR2.out (bel_alloc (Below.refl _ _) (.cells #[.string (strB (d.take k))] 57)))
      have HB3 : Kp (Ex (· = g) w (w2.alloc (.cells #[.string (strB (d.take k))] 57))) := ⟨HB2.out.trans (Ex.of_below (bel_alloc (Below.refl _ _) _))⟩
      have HD3 := Kp.mk (And.intro (HD2.out.1.below (bel_alloc (Below.refl _ _) (.cells #[.string (strB (d.take k))] 57))) (blk_keep HD2.out.2 (bel_alloc (Below.refl _ _) (.cells #[.string (strB (d.take k))] 57))))
      clear hcd hpart HR2 HB2 HD2
      go_wp2_with fail
      generalize hW : w2.alloc _ = W at *
      clear hW
      refine wp_region_growR (Two w.heap.size w.heap.size w2.heap.size (.cells #[.string ⟨#[]⟩] 57 (0, 0)) (.cells #[.string (strB (d.take k))] 57 (0, 0)) (.cells #[.string (strB (d.take k))] 57 (0, 0)) (.cells #[.string (strB (d.take k))] 57 (0, 0))) (fun _ => Two.refl _ _ _ _ _ _ _ _) (fun _ _ _ h k => h.trans k) (by kernel_rfl) 7 (by decide) (apart_of (by kernel_rfl)) (by kernel_rfl) (rnR w.heap.size (strB (d.take k)) A A' d.length cap k) (fun _ _ _ _ => True) (fun _ _ _ _ h hb => by unfold rnR at *; split at h <;> first | exact h | exact hb.2.2.1.1 h) ?_ ?_
      · intro j hj ob ho vs w5 hb5 hpre
        rcases j with _ | _ | _ | _ | _ | _ | _ | j
        · have hq := hb5.2.2.2.1 HQ.out
          have c0 := blk_cell hq 0
          obtain rfl := Option.some.inj ho
          simp only [canon, List.range, List.range.loop, List.foldl]
          go_simp
          exact ⟨rfl, Two.refl _ _ _ _ _ _ _ _⟩
        · obtain rfl := Option.some.inj ho
          simp only [canon, List.range, List.range.loop, List.foldl]
          go_simp
          exact ⟨rfl, Two.refl _ _ _ _ _ _ _ _⟩
        · obtain rfl := Option.some.inj ho
          simp only [canon, List.range, List.range.loop, List.foldl]
          go_simp
          exact ⟨rfl, Two.refl _ _ _ _ _ _ _ _⟩
        · have e1 : vs 1 = _ := hpre 1 (by decide) (by obtain rfl := Option.some.inj ho; rfl)
          have e2 : vs 2 = _ := hpre 2 (by decide) (by obtain rfl := Option.some.inj ho; rfl)
          obtain rfl := Option.some.inj ho
          simp only [canon, List.range, List.range.loop, List.foldl]
          go_simp
          exact ⟨rfl, Two.refl _ _ _ _ _ _ _ _⟩
        · have e0 : vs 0 = _ := hpre 0 (by decide) (by obtain rfl := Option.some.inj ho; rfl)
          have hst := two_fst (B := w.heap.size) (r := w.heap.size) (s := w2.heap.size) (a := #[.string ⟨#[]⟩]) (c := #[.string (strB (d.take k))]) (w := w5) (D := .cells #[.string (strB (d.take k))] 57 (0, 0)) (E := .cells #[.string (strB (d.take k))] 57 (0, 0)) [.string (strB (d.take k))] (hb5.2.2.1.2 HR3.out) rfl rfl (by omega) (by omega)
          obtain ⟨⟨x0, c0⟩, f0⟩ := two_cell (hb5.2.2.1.2 HR3.out) 0 (Nat.le_of_ble_eq_true rfl) (Nat.le_of_ble_eq_true rfl)
          simp only [putAll] at hst
          obtain rfl := Option.some.inj ho
          simp only [canon, List.range, List.range.loop, List.foldl]
          go_simp
          exact ⟨undef, hst.1⟩
        · have e3 : vs 3 = _ := hpre 3 (by decide) (by obtain rfl := Option.some.inj ho; rfl)
          obtain rfl := Option.some.inj ho
          simp only [canon, List.range, List.range.loop, List.foldl]
          go_simp
          exact ⟨rfl, Two.refl _ _ _ _ _ _ _ _⟩
        · obtain rfl := Option.some.inj ho
          simp only [canon, List.range, List.range.loop, List.foldl]
          go_simp
          exact ⟨rfl, Two.refl _ _ _ _ _ _ _ _⟩
        · omega
      · intro vs w5 hb5 hr5 _
        have hV := hr5 4 (by omega)
        have e5 : vs 5 = _ := hr5 5 (by omega)
        have e6 : vs 6 = _ := hr5 6 (by omega)
        have hdr : W.drew.heap = W.heap := rfl
        have HB5 : Kp (Ex (fun k => k = w.heap.size ∨ k = w2.heap.size) W w5) := ⟨⟨hb5.1.os, hb5.1.tape, hb5.1.output, hb5.1.size, fun k hk hp => hb5.2.1 k hk (fun e => hp (.inl e)) (fun e => hp (.inr e))⟩⟩
        clear hb5 hr5 hdr
        refine wpAny_none (by kernel_rfl) ?_ _
        generalize hA : canon _ _ vs 7 = FR
        have h6 : FR.tmps[6]? = some (.pointer (some ⟨w.heap.size, 0, none⟩)) := by rw [← hA, canon_keep _ (by kernel_rfl)]; rfl
        have h7 : FR.tmps[7]? = some (vs 5) := by rw [← hA, canon_get (i := 5) rfl (Nat.le_of_ble_eq_true rfl) 7 (by omega) (apart_of (by kernel_rfl))]
        have h8 : FR.tmps[8]? = some (vs 6) := by rw [← hA, canon_get (i := 6) rfl (Nat.le_of_ble_eq_true rfl) 7 (by omega) (apart_of (by kernel_rfl))]
        have hD : FR.defers = [] := by rw [← hA, canon_defers]
        rw [e5] at h7
        rw [e6] at h8
        clear hA e5 e6
        go_wp2
        refine bodyPost_ret (res_cell3 rfl _ _ w.heap.size 57 #[.string (strB (d.take k))] _ (by rw [Array.getD_eq_getD_getElem?, h6]; rfl) hV Tryd.underlying57 rfl (by kernel_rfl)) hD ?_
        have hgn : g < w.heap.size := HX.out.1
        have hq1 := HB5.out.keep HD3.out.2 (fun h => h.elim (fun e => by omega) (fun e => by omega))
        refine ⟨⟨_, _, hq1⟩, HB3.out.ext HB5.out (fun j hj h => h.elim (fun e => by omega) (fun e => by omega)), ?_⟩
        rw [HM.out]
        simp only
        rw [HCD.out, Array.getD_eq_getD_getElem?, Array.getD_eq_getD_getElem?, h7, h8]
        exact ⟨⟨A', cap - k, rfl, HPT.out _ _ (HD3.out.1.exS HB5.out (fun j h => h.elim (fun e => by rw [e]; exact ⟨_, _, HR3.out⟩) (fun e => by rw [e]; exact ⟨_, _, HQ.out⟩)))⟩, _, hq1⟩

end Go.Proofs.YtdppnlomhlnbkaaDoor
