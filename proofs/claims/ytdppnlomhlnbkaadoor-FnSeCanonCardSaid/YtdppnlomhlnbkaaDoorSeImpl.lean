/- The walk of impl.SeRead. -/
import Derived.Test.YtdppnlomhlnbkaaDoorReadNode
namespace Go.Proofs.YtdppnlomhlnbkaaDoor
open Go.RowKit

/-- What impl.SeRead hands back. -/
def SiEnd (r : LongR) (e : Ending) : Prop :=
  match r with
  | .ended _ => ∃ n, e = .returned (.tuple #[.agg #[.int .u64 0, .int .u64 0, .int .u64 0, .string ⟨#[]⟩, .string ⟨#[]⟩], .int .i64 n, .int .u8 1])
  | .left => False
  | .failed => ∃ n, e = .returned (.tuple #[.agg #[.int .u64 0, .int .u64 0, .int .u64 0, .string ⟨#[]⟩, .string ⟨#[]⟩], .int .i64 n, .int .u8 2])
  | .read d N => match cdRead d with
    | none => ∃ n, e = .returned (.tuple #[.agg #[.int .u64 0, .int .u64 0, .int .u64 0, .string ⟨#[]⟩, .string ⟨#[]⟩], .int .i64 n, .int .u8 2])
    | some (v, codec, code, dg, k) => e = .returned (.tuple #[.agg #[.int .u64 v, .int .u64 codec, .int .u64 code, .string (strB dg), .string (strB (d.drop k))], .int .i64 N, .int .u8 0])

/-- Which number impl.kind gives an error. -/
def KindR (ve v : Value) (kd : Nat) (w : World) : Prop := (v = ve ∧ kd = 1) ∨ (OtherErr v w ∧ kd = 2)
theorem KindR.below {ve v : Value} {kd : Nat} {w w1 : World} (h : KindR ve v kd w) (hb : Below w.heap.size w w1) : KindR ve v kd w1 := h.imp id (fun h => ⟨h.1.below hb, h.2⟩)
theorem kindR_calls (ve v : Value) (kd : Nat) (w : World) (hk : KindR ve v kd w) (hc : w.cell? ⟨1, 0, none⟩ = some ve) (hE : ErrV ve txEof w) :
    Calls Tryd.prog 29 #[v] w fun e w' => e = .returned (.int .u8 (kd : Int)) ∧ Below w.heap.size w w' := by
  rcases hk with ⟨rfl, rfl⟩ | ⟨hk, rfl⟩
  · exact kind_calls _ _ 1 w (.inr (.inl ⟨rfl, rfl⟩)) hc hE
  · exact kindOther_calls ve v w hk hc hE

/-- What a reading that fails has to do with the section. -/
def RnBad (r : LongR) (kd : Nat) : Prop :=
  match r with
  | .ended _ => kd = 1
  | .left => False
  | .failed => kd = 2
  | .read d _ => cdRead d = none ∧ kd = 2
theorem si_of_bad {r : LongR} {kd : Nat} {n : Int} (h : RnBad r kd) : SiEnd r (.returned (.tuple #[.agg #[.int .u64 0, .int .u64 0, .int .u64 0, .string ⟨#[]⟩, .string ⟨#[]⟩], .int .i64 n, .int .u8 kd])) := by
  cases r with
  | ended k => obtain rfl : kd = 1 := h; exact ⟨_, rfl⟩
  | left => exact h.elim
  | failed => obtain rfl : kd = 2 := h; exact ⟨_, rfl⟩
  | read d N => obtain ⟨h1, rfl⟩ := h; unfold SiEnd; simp only; rw [h1]; exact ⟨_, rfl⟩
/-- The same in one form. -/
theorem rn_split {g ga n c i : Nat} {r : LongR} {Te : TypeId} {ue : Value} {w w' : World} {e : Ending} (h : RnEnd g ga n c i r (.iface Te ue) w e w') :
    Ex (· = g) w w' ∧ ((∃ S A m cap T u kd j q, e = .returned (.tuple #[.agg #[.string S], .slice A m cap, .iface T u]) ∧ RdrAt w' g ga n c j q ∧ KindR (.iface Te ue) (.iface T u) kd w' ∧ RnBad r kd) ∨
    (∃ d N v codec code dg k A cap q, r = .read d N ∧ cdRead d = some (v, codec, code, dg, k) ∧ e = .returned (.tuple #[.agg #[.string (strB (d.take k))], .slice A (d.length - k) cap, .nilIface]) ∧ RdB w' A (d.length - k) cap (d.drop k) ∧ RdrAt w' g ga n c (i + N) q)) := by
  obtain ⟨⟨j, q, hj⟩, hb, h⟩ := h
  refine ⟨hb, ?_⟩
  cases r with
  | ended k =>
    obtain ⟨s, A, m, cap, rfl⟩ := h
    exact .inl ⟨s, A, m, cap, _, _, 1, j, q, rfl, hj, .inl ⟨rfl, rfl⟩, rfl⟩
  | left => exact h.elim
  | failed =>
    obtain ⟨s, A, m, cap, v, rfl, hv⟩ := h
    obtain ⟨T, u, rfl⟩ := hv.iface
    exact .inl ⟨s, A, m, cap, _, _, 2, j, q, rfl, hj, .inr ⟨hv, rfl⟩, rfl⟩
  | read d N =>
    simp only at h
    cases hc : cdRead d with
    | none =>
      rw [hc] at h
      obtain ⟨s, A, m, cap, v, rfl, hv⟩ := h
      obtain ⟨T, u, rfl⟩ := hv.iface
      exact .inl ⟨s, A, m, cap, _, _, 2, j, q, rfl, hj, .inr ⟨hv, rfl⟩, hc, rfl⟩
    | some p =>
      obtain ⟨v, codec, code, dg, k⟩ := p
      rw [hc] at h
      obtain ⟨⟨A, cap, rfl, hr⟩, q', hq⟩ := h
      exact .inr ⟨d, N, v, codec, code, dg, k, A, cap, q', rfl, hc, rfl, hr, hq⟩

/-- What the last line's operations leave. -/
def seR (r : Nat) (S1 : ByteArray) (C V : Array Value) (A : Option Addr) (m cap : Nat) (S s : ByteArray) (g L : Nat) (j : Nat) (u : Value) (w : World) : Prop :=
  match j with
  | 0 => u = .agg #[.string S1]
  | 1 => u = .agg C
  | 2 => u = .slice A m cap
  | 3 => u = .string S
  | 4 => u = .agg V
  | 5 => u = .string s
  | 6 => u = .int .i64 s.size
  | 7 => u = .pointer (some ⟨g, 0, none⟩)
  | 8 => u = .int .i64 L
  | 9 => u = .int .i64 ((s.size : Int) - L)
  | 10 => w.heap[r]? = some (.cells V 45 (0, 0))
  | 11 => u = .int .i64 ((s.size : Int) - L)
  | 12 => u = .int .u8 0
  | _ => True

set_option maxHeartbeats 8000000 in
set_option maxRecDepth 100000 in
/-- impl.SeRead. -/
theorem implSe_calls (s : ByteArray) (ze : Bool) (most : Nat) (ve vu vo vn vl : Value) (w : World) (hs : s.size ≤ 2147483647) (hm : most ≤ 33554432) (hnl : longRead (bl s) ze most ≠ .left) (he : RdErrs ve vu vo vn w) (hcd : CdErrs w)
    (hlv : w.cell? ⟨6, 0, none⟩ = some vl) (hle : NotEof vl w) :
    Calls Tryd.prog 21 #[.string s, .bool ze, .int .u64 most] w fun e w' => SiEnd (longRead (bl s) ze most) e ∧ Below w.heap.size w w' := by
  have hkb := fun W => Lib.run_convert_string_bytes (P := Tryd.prog) W 9 62 5 s Tryd.underlying9 Tryd.underlying62 Tryd.underlying5
  have heof := World.block_lt_of_cell? w _ he.eof
  obtain ⟨Te, ue, rfl⟩ := he.eofE.iface
  have HX := Kp.mk (And.intro hs (And.intro hm hnl))
  have HE := Kp.mk (And.intro he (And.intro hlv (And.intro hle (And.intro heof hcd))))
  clear hs hm hnl he hlv hle heof hcd
  go_enter Tryd.func21, Tryd.ntmps21
  go_wp2_with fail
  generalize hW0 : w.alloc _ = W0
  have hr0 : W0.heap[w.heap.size]? = some (.cells #[.int .u64 0, .int .u64 0, .int .u64 0, .string ⟨#[]⟩, .string ⟨#[]⟩] 45 (0, 0)) := by rw [← hW0]; exact blk_new (Below.refl _ _)
  have hb0 : Below w.heap.size w W0 := by rw [← hW0]; exact bel_alloc (Below.refl _ _) _
  have hs0 : W0.heap.size = w.heap.size + 1 := by rw [← hW0]; simp [World.alloc, -World.alloc_eq]
  have hrd := rd_bytes W0 5 s (by have := HX.out.1; omega)
  have hsz1 : (Lib.bytesWorld W0 5 s).heap.size = w.heap.size + 2 := by rw [Lib.bytesWorld_size, hs0]
  rw [hs0] at hrd
  generalize hgc : grownCap W0 s.size 0 5 = gc at *
  have hb1 : Below W0.heap.size W0 (Lib.bytesWorld W0 5 s) := bel_bytes (Below.refl _ _) _ _
  generalize hW1 : Lib.bytesWorld W0 5 s = W1 at *
  refine (mkRdr_calls _ _ _ _).mono ?_
  rintro e1 w2 ⟨rfl, hw2⟩
  have hb2 : Below W1.heap.size W1 w2 := by rw [hw2]; exact bel_alloc (Below.refl _ _) _
  have hg2 : RdrAt w2 (w.heap.size + 2) (w.heap.size + 1) s.size gc 0 (-1) := by rw [hw2, ← hsz1]; simp [RdrAt, World.alloc, -World.alloc_eq]
  rw [hsz1]
  have hB2 := bel_then (bel_then hb0 hb1) hb2
  have hr2 := blk_keep hr0 (bel_then hb1 hb2)
  have hup : ∀ w', Ex (· = w.heap.size + 2) w2 w' → Below w.heap.size w w' := fun w' h => hB2.trans (h.toBelow (fun k hk e => by omega) hB2.size)
  have HL := readNode_calls (w.heap.size + 2) (w.heap.size + 1) s.size gc 0 (-1) (bl s) (.iface Te ue) vu vo vn ze most w2 hg2 (hrd.below hb2) (Nat.lt_succ_self _) HX.out.1 (by have := HE.out.2.2.2.1; omega)
    (fun w' h => HE.out.1.below (hup w' h)) (fun w' h => ⟨vl, cell_bel (hup w' h) HE.out.2.1, HE.out.2.2.1.below (hup w' h)⟩) (fun w' h => HE.out.2.2.2.2.below (hup w' h)) HX.out.2.1 (by rw [List.drop_zero]; exact HX.out.2.2)
  rw [List.drop_zero] at HL
  have HL := Kp.mk HL
  have HUP := Kp.mk hup
  have HR2 := Kp.mk hr2
  clear hkb hrd hb0 hb1 hs0 hsz1 hgc hW0 hW1 hw2 hb2 hg2 hB2 hup hr0 hr2
  go_wp2_with fail
  refine HL.out.mono ?_
  rintro e w3 hu
  obtain ⟨hb3, hu⟩ := rn_split hu
  have HB3 := Kp.mk (HUP.out w3 hb3)
  have HR3 := Kp.mk (hb3.keep HR2.out (by omega))
  have hs31 := HX.out.1
  clear hb3 HL HUP HR2
  rcases hu with ⟨S, A, m, cap, T, u, kd, j, q, rfl, hj, hk, hbad⟩ | ⟨d, N, v, codec, code, dg, k, A, cap, q, hrr, hcr, rfl, hrb, hj⟩
  · have HJ := Kp.mk (And.intro hj (And.intro hk hbad))
    have hr3 : w.heap.size + 2 < w3.heap.size := (Array.getElem?_eq_some_iff.1 hj).1
    have HB4 := Kp.mk (bel_alloc HB3.out (.cells #[.string S] 57))
    have HR4 := Kp.mk (blk_keep HR3.out (bel_alloc (Below.refl _ _) (.cells #[.string S] 57)))
    have HJ4 := Kp.mk (And.intro (blk_keep hj (bel_alloc (Below.refl _ _) (.cells #[.string S] 57))) (hk.below (bel_alloc (Below.refl _ _) (.cells #[.string S] 57))))
    clear hj hk hbad HB3 HR3
    go_wp2_with fail
    generalize hW4 : w3.alloc _ = W4 at *
    clear hW4
    refine (rdLen_calls _ _ _ _ j q W4 HJ4.out.1 (by omega)).mono ?_
    rintro e w5 ⟨rfl, hb5⟩
    have HB5 := Kp.mk (bel_then HB4.out hb5)
    have HR5 := Kp.mk (blk_keep HR4.out hb5)
    have HK5 := Kp.mk (HJ4.out.2.below hb5)
    clear hb5 HB4 HR4 HJ4
    go_wp2_with fail
    refine (kindR_calls (.iface Te ue) _ kd w5 HK5.out (HE.out.1.below HB5.out).eof (HE.out.1.below HB5.out).eofE).mono ?_
    rintro e w6 ⟨rfl, hb6⟩
    have HB6 := Kp.mk (bel_then HB5.out hb6)
    have HR6 := Kp.mk (blk_keep HR5.out hb6)
    clear hb6 HB5 HR5 HK5
    have c0 := blk_cell HR6.out 0
    have c1 := blk_cell HR6.out 1
    have c2 := blk_cell HR6.out 2
    have c3 := blk_cell HR6.out 3
    have c4 := blk_cell HR6.out 4
    have f0 := blk_frozen HR6.out 0
    have f1 := blk_frozen HR6.out 1
    have f2 := blk_frozen HR6.out 2
    have f3 := blk_frozen HR6.out 3
    have f4 := blk_frozen HR6.out 4
    go_wp2_with fail
    refine bodyPost_ret (res_cell3 rfl _ _ w.heap.size 45 #[.int .u64 0, .int .u64 0, .int .u64 0, .string ⟨#[]⟩, .string ⟨#[]⟩] _ rfl (blk_set (blk_set (blk_set (blk_set (blk_set HR6.out 0 _) 1 _) 2 _) 3 _) 4 _) Tryd.underlying45 rfl (by kernel_rfl)) rfl ?_
    refine ⟨si_of_bad HJ.out.2.2, ?_⟩
    exact bel_set (bel_set (bel_set (bel_set (bel_set HB6.out (Nat.le_refl _) _) (Nat.le_refl _) _) (Nat.le_refl _) _) (Nat.le_refl _) _) (Nat.le_refl _) _
  · rw [Nat.zero_add] at hj
    have hNl := long_le hrr
    rw [bl_length] at hNl
    have hdl := long_dle hrr
    rw [bl_length] at hdl
    have HM := Kp.mk (And.intro hrr hcr)
    have hr3 : w.heap.size + 2 < w3.heap.size := (Array.getElem?_eq_some_iff.1 hj).1
    have HCO := Kp.mk (fun w he => cidOutRead_calls d v codec code k dg w hcr (by omega) he)
    have HQ := Kp.mk (blk_new (w := w3) (o := (.cells #[.string (strB (d.take k))] 57)) (Below.refl _ _))
    have hr4 : w3.heap.size < (w3.alloc (.cells #[.string (strB (d.take k))] 57)).heap.size := (Array.getElem?_eq_some_iff.1 HQ.out).1
    have HR := Kp.mk (blk_keep HR3.out (bel_alloc (Below.refl _ _) (.cells #[.string (strB (d.take k))] 57)))
    have HB := Kp.mk (bel_alloc HB3.out (.cells #[.string (strB (d.take k))] 57))
    have HD := Kp.mk (And.intro (hrb.below (bel_alloc (Below.refl _ _) (.cells #[.string (strB (d.take k))] 57))) (blk_keep hj (bel_alloc (Below.refl _ _) (.cells #[.string (strB (d.take k))] 57))))
    have HDL := Kp.mk hdl
    have HNL := Kp.mk hNl
    clear hrr hcr hrb hj HR3 HB3 HX hdl hNl
    go_wp2_with fail
    generalize hW : w3.alloc _ = W at *
    clear hW
    refine wp_region_growR (Two w.heap.size w.heap.size w3.heap.size (.cells #[.int .u64 0, .int .u64 0, .int .u64 0, .string ⟨#[]⟩, .string ⟨#[]⟩] 45 (0, 0)) (.cells #[.int .u64 v, .int .u64 codec, .int .u64 code, .string (strB dg), .string (strB (d.drop k))] 45 (0, 0)) (.cells #[.string (strB (d.take k))] 57 (0, 0)) (.cells #[.string (strB (d.take k))] 57 (0, 0))) (fun _ => Two.refl _ _ _ _ _ _ _ _) (fun _ _ _ h k => h.trans k) (by kernel_rfl) 13 (by decide) (apart_of (by kernel_rfl)) (by kernel_rfl) (seR w.heap.size (strB (d.take k)) #[.int .u64 v, .int .u64 codec, .int .u64 code, .string (strB dg)] #[.int .u64 v, .int .u64 codec, .int .u64 code, .string (strB dg), .string (strB (d.drop k))] A (d.length - k) cap (strB (d.drop k)) s (w.heap.size + 2) (s.size - N)) (fun _ _ _ _ => True) (fun _ _ _ _ h hb => by unfold seR at *; split at h <;> first | exact h | exact hb.2.2.1.1 h) ?_ ?_
    · intro j' hj ob ho vs w5 hb5 hpre
      have hsz5 : W.heap.size ≤ w5.heap.size := hb5.1.size
      have HB5 : Kp (Below w.heap.size w w5) := ⟨HB.out.trans ((bel_drewN (Below.refl w.heap.size W) 1).trans hb5.1)⟩
      have HX5 : Kp (Ex (fun k => k = w.heap.size ∨ k = w3.heap.size) W w5) := ⟨⟨hb5.1.os, hb5.1.tape, hb5.1.output, hb5.1.size, fun k hk hp => hb5.2.1 k hk (fun e => hp (.inl e)) (fun e => hp (.inr e))⟩⟩
      rcases j' with _ | _ | _ | _ | _ | _ | _ | _ | _ | _ | _ | _ | _ | j'
      · have hq := hb5.2.2.2.1 HQ.out
        have c0 := blk_cell hq 0
        obtain rfl := Option.some.inj ho
        simp only [canon, List.range, List.range.loop, List.foldl]
        go_simp
        exact ⟨rfl, Two.refl _ _ _ _ _ _ _ _⟩
      · have e0 : vs 0 = _ := hpre 0 (by decide) (by obtain rfl := Option.some.inj ho; rfl)
        obtain rfl := Option.some.inj ho
        simp only [canon, List.range, List.range.loop, List.foldl]
        go_simp
        refine (HCO.out w5 (HE.out.2.2.2.2.below HB5.out).mh).mono ?_
        rintro e6 w6 ⟨rfl, hb6⟩
        exact ⟨rfl, Two.of_below hb6 (by omega) (by omega) (by omega)⟩
      · obtain rfl := Option.some.inj ho
        simp only [canon, List.range, List.range.loop, List.foldl]
        go_simp
        exact ⟨rfl, Two.refl _ _ _ _ _ _ _ _⟩
      · have e2 : vs 2 = _ := hpre 2 (by decide) (by obtain rfl := Option.some.inj ho; rfl)
        have hcv := rd_string (HD.out.1.exN HX5.out (fun j h => h.elim (fun e => by rw [e]; exact ⟨_, _, HR.out, no_u8_5⟩) (fun e => by rw [e]; exact ⟨_, _, HQ.out, no_u8_1⟩))) 62 9 Tryd.underlying62 Tryd.underlying9
        obtain rfl := Option.some.inj ho
        simp only [canon, List.range, List.range.loop, List.foldl]
        go_simp
        exact ⟨rfl, Two.refl _ _ _ _ _ _ _ _⟩
      · have e1 : vs 1 = _ := hpre 1 (by decide) (by obtain rfl := Option.some.inj ho; rfl)
        have e3 : vs 3 = _ := hpre 3 (by decide) (by obtain rfl := Option.some.inj ho; rfl)
        obtain rfl := Option.some.inj ho
        simp only [canon, List.range, List.range.loop, List.foldl]
        go_simp
        exact ⟨rfl, Two.refl _ _ _ _ _ _ _ _⟩
      · obtain rfl := Option.some.inj ho
        simp only [canon, List.range, List.range.loop, List.foldl]
        go_simp
        exact ⟨rfl, Two.refl _ _ _ _ _ _ _ _⟩
      · have e5 : vs 5 = _ := hpre 5 (by decide) (by obtain rfl := Option.some.inj ho; rfl)
        obtain rfl := Option.some.inj ho
        simp only [canon, List.range, List.range.loop, List.foldl]
        go_simp
        exact ⟨rfl, Two.refl _ _ _ _ _ _ _ _⟩
      · obtain rfl := Option.some.inj ho
        simp only [canon, List.range, List.range.loop, List.foldl]
        go_simp
        exact ⟨rfl, Two.refl _ _ _ _ _ _ _ _⟩
      · have e7 : vs 7 = _ := hpre 7 (by decide) (by obtain rfl := Option.some.inj ho; rfl)
        obtain rfl := Option.some.inj ho
        simp only [canon, List.range, List.range.loop, List.foldl]
        go_simp
        refine (rdLen_calls _ _ _ _ N q w5 (HX5.out.keep HD.out.2 (fun h => h.elim (fun e => by omega) (fun e => by omega))) (by omega)).mono ?_
        rintro e6 w6 ⟨rfl, hb6⟩
        exact ⟨rfl, Two.of_below hb6 (by omega) (by omega) (by omega)⟩
      · have e6 : vs 6 = _ := hpre 6 (by decide) (by obtain rfl := Option.some.inj ho; rfl)
        have e8 : vs 8 = _ := hpre 8 (by decide) (by obtain rfl := Option.some.inj ho; rfl)
        obtain rfl := Option.some.inj ho
        simp only [canon, List.range, List.range.loop, List.foldl]
        go_simp
        exact ⟨congrArg (Value.int .i64) (by rw [IntKind.wrap_i64]; omega), Two.refl _ _ _ _ _ _ _ _⟩
      · have e4 : vs 4 = _ := hpre 4 (by decide) (by obtain rfl := Option.some.inj ho; rfl)
        have hst := two_fst (B := w.heap.size) (r := w.heap.size) (s := w3.heap.size) (a := #[.int .u64 0, .int .u64 0, .int .u64 0, .string ⟨#[]⟩, .string ⟨#[]⟩]) (c := #[.int .u64 v, .int .u64 codec, .int .u64 code, .string (strB dg), .string (strB (d.drop k))]) (w := w5) (D := (.cells #[.string (strB (d.take k))] 57 (0, 0))) (E := (.cells #[.string (strB (d.take k))] 57 (0, 0))) [.int .u64 v, .int .u64 codec, .int .u64 code, .string (strB dg), .string (strB (d.drop k))] (hb5.2.2.1.2 HR.out) rfl rfl (by omega) (by omega)
        obtain ⟨⟨x0, c0⟩, f0⟩ := two_cell (hb5.2.2.1.2 HR.out) 0 (Nat.le_of_ble_eq_true rfl) (Nat.le_of_ble_eq_true rfl)
        obtain ⟨⟨x1, c1⟩, f1⟩ := two_cell (hb5.2.2.1.2 HR.out) 1 (Nat.le_of_ble_eq_true rfl) (Nat.le_of_ble_eq_true rfl)
        obtain ⟨⟨x2, c2⟩, f2⟩ := two_cell (hb5.2.2.1.2 HR.out) 2 (Nat.le_of_ble_eq_true rfl) (Nat.le_of_ble_eq_true rfl)
        obtain ⟨⟨x3, c3⟩, f3⟩ := two_cell (hb5.2.2.1.2 HR.out) 3 (Nat.le_of_ble_eq_true rfl) (Nat.le_of_ble_eq_true rfl)
        obtain ⟨⟨x4, c4⟩, f4⟩ := two_cell (hb5.2.2.1.2 HR.out) 4 (Nat.le_of_ble_eq_true rfl) (Nat.le_of_ble_eq_true rfl)
        simp only [putAll, Nat.zero_add, Nat.reduceAdd] at hst
        obtain rfl := Option.some.inj ho
        simp only [canon, List.range, List.range.loop, List.foldl]
        go_simp
        exact ⟨undef, hst.1⟩
      · have e9 : vs 9 = _ := hpre 9 (by decide) (by obtain rfl := Option.some.inj ho; rfl)
        obtain rfl := Option.some.inj ho
        simp only [canon, List.range, List.range.loop, List.foldl]
        go_simp
        exact ⟨rfl, Two.refl _ _ _ _ _ _ _ _⟩
      · obtain rfl := Option.some.inj ho
        simp only [canon, List.range, List.range.loop, List.foldl]
        go_simp
        exact ⟨rfl, Two.refl _ _ _ _ _ _ _ _⟩
      · omega
    · intro vs w5 hb5 hr5 _
      have hV := hr5 10 (by omega)
      have e11 : vs 11 = _ := hr5 11 (by omega)
      have e12 : vs 12 = _ := hr5 12 (by omega)
      have HB5 : Kp (Below w.heap.size w w5) := ⟨HB.out.trans ((bel_drewN (Below.refl w.heap.size W) 1).trans hb5.1)⟩
      clear hb5 hr5
      refine wpAny_none (by kernel_rfl) ?_ _
      generalize hA : canon _ _ vs 13 = FR
      have h6 : FR.tmps[6]? = some (.pointer (some ⟨w.heap.size, 0, none⟩)) := by rw [← hA, canon_keep _ (by kernel_rfl)]; rfl
      have h7 : FR.tmps[7]? = some (vs 11) := by rw [← hA, canon_get (i := 11) rfl (Nat.le_of_ble_eq_true rfl) 13 (by omega) (apart_of (by kernel_rfl))]
      have h8 : FR.tmps[8]? = some (vs 12) := by rw [← hA, canon_get (i := 12) rfl (Nat.le_of_ble_eq_true rfl) 13 (by omega) (apart_of (by kernel_rfl))]
      have hD : FR.defers = [] := by rw [← hA, canon_defers]
      rw [e11] at h7
      rw [e12] at h8
      clear hA e11 e12
      go_wp2
      refine bodyPost_ret (res_cell3 rfl _ _ w.heap.size 45 #[.int .u64 v, .int .u64 codec, .int .u64 code, .string (strB dg), .string (strB (d.drop k))] _ (by rw [Array.getD_eq_getD_getElem?, h6]; rfl) hV Tryd.underlying45 rfl (by kernel_rfl)) hD ?_
      refine ⟨?_, HB5.out⟩
      have hNl := HNL.out
      have hz : ((s.size : Int) - (s.size - N : Nat)) = (N : Int) := by omega
      rw [HM.out.1]
      unfold SiEnd
      simp only
      rw [HM.out.2, Array.getD_eq_getD_getElem?, Array.getD_eq_getD_getElem?, h7, h8, hz]
      rfl

end Go.Proofs.YtdppnlomhlnbkaaDoor
