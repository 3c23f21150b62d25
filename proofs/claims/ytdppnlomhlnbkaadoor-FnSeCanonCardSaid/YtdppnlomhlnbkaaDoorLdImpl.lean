/- The walks of bytes.Reader's Len, impl.kind and impl.LdRead. -/
import Derived.Test.YtdppnlomhlnbkaaDoorLdA
import Derived.Test.YtdppnlomhlnbkaaDoorGrowA
namespace Go.Proofs.YtdppnlomhlnbkaaDoor
open Go.RowKit

set_option maxHeartbeats 2000000 in
set_option maxRecDepth 100000 in
/-- (*bytes.Reader).Len. -/
theorem rdLen_calls (g ga n c i : Nat) (q : Int) (w : World) (hg : RdrAt w g ga n c i q) (hn : n ≤ 4611686018427387904) :
    Calls Tryd.prog 35 #[.pointer (some ⟨g, 0, none⟩)] w fun e w' => e = .returned (.int .i64 ((n - i : Nat) : Int)) ∧ Below w.heap.size w w' := by
  have c0 := blk_cell hg 0
  have c1 := blk_cell hg 1
  clear hg
  by_cases hi : n ≤ i
  · have q1 : decide ((n : Int) ≤ (i : Int)) = true := decide_eq_true (by omega)
    have hz : n - i = 0 := by omega
    rw [hz]
    go_enter Tryd.func35, Tryd.ntmps35
    go_wp2_with fail
    go_quiet (fail)
    go_wp2_with fail
    go_ret
    exact ⟨rfl, bel_drewN (Below.refl _ _) _⟩
  · have q1 : decide ((n : Int) ≤ (i : Int)) = false := decide_eq_false (by omega)
    have hz : ((n - i : Nat) : Int) = (n : Int) - (i : Int) := by omega
    rw [hz]
    go_enter Tryd.func35, Tryd.ntmps35
    go_wp2_with fail
    go_quiet (fail)
    go_wp2_with fail
    go_quiet (fail)
    go_wp2_with fail
    go_ret
    exact ⟨rfl, bel_drewN (bel_drewN (Below.refl _ _) _) _⟩

/-- Which number impl.kind gives an error. -/
def KindIs (ve v : Value) (kd : Nat) (w : World) : Prop := (v = .nilIface ∧ kd = 0) ∨ (v = ve ∧ kd = 1) ∨ (NotEof v w ∧ kd = 2)
theorem KindIs.below {ve v : Value} {kd : Nat} {w w1 : World} (h : KindIs ve v kd w) (hb : Below w.heap.size w w1) : KindIs ve v kd w1 := by
  rcases h with h | h | ⟨h, h2⟩
  · exact .inl h
  · exact .inr (.inl h)
  · exact .inr (.inr ⟨h.below hb, h2⟩)

set_option maxHeartbeats 2000000 in
set_option maxRecDepth 100000 in
/-- impl.kind. -/
theorem kind_calls (ve v : Value) (kd : Nat) (w : World) (hk : KindIs ve v kd w) (hc : w.cell? ⟨1, 0, none⟩ = some ve) (hE : ErrV ve txEof w) :
    Calls Tryd.prog 29 #[v] w fun e w' => e = .returned (.int .u8 (kd : Int)) ∧ Below w.heap.size w w' := by
  rcases hk with ⟨rfl, rfl⟩ | ⟨rfl, rfl⟩ | ⟨⟨t, ht, hv⟩, rfl⟩
  · clear hc hE
    go_enter Tryd.func29, Tryd.ntmps29
    go_wp2
    go_ret
    exact ⟨rfl, Below.refl _ _⟩
  · have hq := errV_same hE
    obtain ⟨T, u, rfl⟩ := hE.iface
    clear hE
    go_enter Tryd.func29, Tryd.ntmps29
    go_wp2
    go_ret
    exact ⟨rfl, Below.refl _ _⟩
  · have hq := errV_other hv hE ht
    obtain ⟨T, u, rfl⟩ := hE.iface
    obtain ⟨T', u', rfl⟩ := hv.iface
    clear hE hv ht
    go_enter Tryd.func29, Tryd.ntmps29
    go_wp2
    go_ret
    exact ⟨rfl, Below.refl _ _⟩

set_option maxHeartbeats 800000 in
theorem mkRdr_calls (ga n c : Nat) (w : World) :
    Calls Tryd.prog 28 #[.slice (some ⟨ga, 0, none⟩) n c] w fun e' w' => e' = .returned (.pointer (some ⟨w.heap.size, 0, none⟩)) ∧ w' = w.alloc (.cells #[.slice (some ⟨ga, 0, none⟩) n c, .int .i64 0, .int .i64 (-1)] 119) := by
  go_enter Tryd.func28, Tryd.ntmps28
  go_wp2
  go_ret
  exact ⟨rfl, rfl⟩

/-- What impl.LdRead hands back. -/
def LiEnd (r : LongR) (e : Ending) : Prop :=
  match r with
  | .ended _ => ∃ a b, e = .returned (.tuple #[.string a, .int .i64 b, .int .u8 1])
  | .left => False
  | .failed => ∃ a b, e = .returned (.tuple #[.string a, .int .i64 b, .int .u8 2])
  | .read d N => e = .returned (.tuple #[.string (strB d), .int .i64 N, .int .u8 0])

/-- What the last line's operations leave. -/
def liR (A : Option Addr) (m cap : Nat) (S s : ByteArray) (g L : Nat) (v : Value) (kd : Nat) (j : Nat) (u : Value) (_ : World) : Prop :=
  match j with
  | 0 => u = .slice A m cap
  | 1 => u = .string S
  | 2 => u = .string s
  | 3 => u = .int .i64 s.size
  | 4 => u = .pointer (some ⟨g, 0, none⟩)
  | 5 => u = .int .i64 L
  | 6 => u = .int .i64 ((s.size : Int) - L)
  | 7 => u = v
  | 8 => u = .int .u8 kd
  | 9 => u = .string S
  | 10 => u = .int .i64 ((s.size : Int) - L)
  | 11 => u = .int .u8 kd
  | _ => True

/-- What the section, the reader's place and the kind have to do with each other. -/
def LiRel (r : LongR) (i : Nat) (d : List UInt8) (j kd : Nat) : Prop :=
  match r with
  | .ended _ => kd = 1
  | .left => False
  | .failed => kd = 2
  | .read d' N => d' = d ∧ j = i + N ∧ kd = 0
theorem long_le {bs : List UInt8} {ze : Bool} {most : Nat} {d : List UInt8} {N : Nat} (h : longRead bs ze most = .read d N) : N ≤ bs.length := by
  unfold longRead at h
  split at h
  · cases h
  · split at h
    · cases h
    · rename_i x k h1
      have hk := (uvRead_some h1).2.1
      split at h
      · cases h
      · split at h
        · cases h
        · split at h
          · cases h
          · split at h
            · cases h
            · simp only [LongR.read.injEq] at h
              omega
theorem li_of_rel {bs : List UInt8} {ze : Bool} {most j kd : Nat} {d : List UInt8} (h : LiRel (longRead bs ze most) 0 d j kd) : LiEnd (longRead bs ze most) (.returned (.tuple #[.string (strB d), .int .i64 ((bs.length : Int) - (bs.length - j : Nat)), .int .u8 kd])) := by
  cases hr : longRead bs ze most with
  | ended k => rw [hr] at h; obtain rfl : kd = 1 := h; exact ⟨_, _, rfl⟩
  | left => rw [hr] at h; exact h.elim
  | failed => rw [hr] at h; obtain rfl : kd = 2 := h; exact ⟨_, _, rfl⟩
  | read d' N =>
    have hl := long_le hr
    rw [hr] at h
    obtain ⟨rfl, rfl, rfl⟩ := h
    have he : ((bs.length : Int) - (bs.length - (0 + N) : Nat)) = (N : Int) := by omega
    rw [he]; rfl

/-- The same in one form. -/
theorem lu_split {g ga n c i : Nat} {r : LongR} {ve : Value} {w w' : World} {e : Ending} (h : LuEnd g ga n c i r ve w e w') :
    ∃ A m cap d v kd j q, e = .returned (.tuple #[.slice A m cap, v]) ∧ RdB w' A m cap d ∧ RdrAt w' g ga n c j q ∧ KindIs ve v kd w' ∧ Ex (· = g) w w' ∧ LiRel r i d j kd := by
  obtain ⟨⟨j, q, hj⟩, hb, h⟩ := h
  cases r with
  | ended k =>
    simp only at h
    subst h
    exact ⟨none, 0, 0, [], ve, 1, j, q, rfl, ⟨rfl, Nat.le_refl _, by omega, fun h => by omega⟩, hj, .inr (.inl ⟨rfl, rfl⟩), hb, rfl⟩
  | left => exact h.elim
  | failed =>
    obtain ⟨v, rfl, hv⟩ := h
    exact ⟨none, 0, 0, [], v, 2, j, q, rfl, ⟨rfl, Nat.le_refl _, by omega, fun h => by omega⟩, hj, .inr (.inr ⟨hv, rfl⟩), hb, rfl⟩
  | read d N =>
    obtain ⟨⟨A, cap, rfl, hr⟩, q', hq'⟩ := h
    exact ⟨A, _, cap, d, .nilIface, 0, i + N, q', rfl, hr, hq', .inl ⟨rfl, rfl⟩, hb, rfl, rfl, rfl⟩

set_option maxHeartbeats 4000000 in
set_option maxRecDepth 100000 in
/-- impl.LdRead. -/
theorem implLd_calls (s : ByteArray) (ze : Bool) (most : Nat) (ve vu vo vn vl : Value) (w : World) (hs : s.size ≤ 2147483647) (hm : most ≤ 33554432) (hnl : longRead (bl s) ze most ≠ .left) (he : RdErrs ve vu vo vn w)
    (hlv : w.cell? ⟨6, 0, none⟩ = some vl) (hle : NotEof vl w) :
    Calls Tryd.prog 18 #[.string s, .bool ze, .int .u64 most] w fun e w' => LiEnd (longRead (bl s) ze most) e ∧ Below w.heap.size w w' := by
  have hkb := fun W => Lib.run_convert_string_bytes (P := Tryd.prog) W 9 62 5 s Tryd.underlying9 Tryd.underlying62 Tryd.underlying5
  have hrd := rd_bytes w 5 s (by omega)
  have hb1 : Below w.heap.size w (Lib.bytesWorld w 5 s) := bel_bytes (Below.refl _ _) _ _
  have hsz1 : (Lib.bytesWorld w 5 s).heap.size = w.heap.size + 1 := by rw [Lib.bytesWorld_size]
  have heof := World.block_lt_of_cell? w _ he.eof
  have HX := Kp.mk (And.intro hs (And.intro hm hnl))
  have HE := Kp.mk (And.intro he (And.intro hlv (And.intro hle heof)))
  clear hs hm hnl he hlv hle heof
  go_enter Tryd.func18, Tryd.ntmps18
  go_wp2_with fail
  generalize hgc : grownCap w s.size 0 5 = gc at *
  generalize hW1 : Lib.bytesWorld w 5 s = W1 at *
  refine (mkRdr_calls _ _ _ _).mono ?_
  rintro e1 w2 ⟨rfl, hw2⟩
  have hb2 : Below W1.heap.size W1 w2 := by rw [hw2]; exact bel_alloc (Below.refl _ _) _
  have hg2 : RdrAt w2 (w.heap.size + 1) w.heap.size s.size gc 0 (-1) := by rw [hw2, ← hsz1]; simp [RdrAt, World.alloc, -World.alloc_eq]
  rw [hsz1]
  have hB2 := bel_then hb1 hb2
  have hup : ∀ w', Ex (· = w.heap.size + 1) w2 w' → Below w.heap.size w w' := fun w' h => hB2.trans (h.toBelow (fun k hk e => by omega) hB2.size)
  have HL := ldRead_calls (w.heap.size + 1) w.heap.size s.size gc 0 (-1) (bl s) ve vu vo vn ze most w2 hg2 (hrd.below hb2) (Nat.lt_succ_self _) (by have := HX.out; omega) (by have := HE.out.2.2.2; exact Nat.lt_succ_of_lt this)
    (fun w' h => HE.out.1.below (hup w' h)) (fun w' h => ⟨vl, cell_bel (hup w' h) HE.out.2.1, HE.out.2.2.1.below (hup w' h)⟩) HX.out.2.1 (by rw [List.drop_zero]; exact HX.out.2.2)
  rw [List.drop_zero] at HL
  have HL := Kp.mk HL
  have HUP := Kp.mk hup
  clear hkb hrd hb1 hsz1 hgc hW1 hw2 hb2 hg2 hB2 hup
  go_wp2_with fail
  refine HL.out.mono ?_
  rintro e w3 hu
  obtain ⟨A, m, cap, d, v, kd, j, q, rfl, hr3, hj3, hk3, hb3, hli⟩ := lu_split hu
  have HB3 := Kp.mk (HUP.out w3 hb3)
  have HD := Kp.mk (And.intro hr3 (And.intro hj3 (And.intro hk3 (And.intro (HE.out.1.below (HUP.out w3 hb3)) hli))))
  have hs31 := HX.out.1
  clear hu hr3 hj3 hk3 hb3 hli HL HUP HX
  go_wp2_with fail
  refine wp_region_growR (fun u u' => Below u.heap.size u u') (fun _ => Below.refl _ _) (fun _ _ _ h k => bel_then h k) (by kernel_rfl) 12 (by decide) (apart_of (by kernel_rfl)) (by kernel_rfl) (liR A m cap (strB d) s (w.heap.size + 1) (s.size - j) v kd) (fun _ _ _ _ => True) (fun _ _ _ _ h _ => by unfold liR at *; exact h) ?_ ?_
  · intro j' hj ob ho vs w5 hb5 hpre
    have HB5 := Kp.mk (bel_then (bel_drew (Below.refl _ w3)) hb5)
    rcases j' with _ | _ | _ | _ | _ | _ | _ | _ | _ | _ | _ | _ | j'
    · obtain rfl := Option.some.inj ho
      simp only [canon, List.range, List.range.loop, List.foldl]
      go_simp
      exact ⟨rfl, Below.refl _ _⟩
    · have e0 : vs 0 = _ := hpre 0 (by decide) (by obtain rfl := Option.some.inj ho; rfl)
      have hcv := rd_string (HD.out.1.below HB5.out) 62 9 Tryd.underlying62 Tryd.underlying9
      obtain rfl := Option.some.inj ho
      simp only [canon, List.range, List.range.loop, List.foldl]
      go_simp
      exact ⟨rfl, Below.refl _ _⟩
    · obtain rfl := Option.some.inj ho
      simp only [canon, List.range, List.range.loop, List.foldl]
      go_simp
      exact ⟨rfl, Below.refl _ _⟩
    · have e2 : vs 2 = _ := hpre 2 (by decide) (by obtain rfl := Option.some.inj ho; rfl)
      obtain rfl := Option.some.inj ho
      simp only [canon, List.range, List.range.loop, List.foldl]
      go_simp
      exact ⟨rfl, Below.refl _ _⟩
    · obtain rfl := Option.some.inj ho
      simp only [canon, List.range, List.range.loop, List.foldl]
      go_simp
      exact ⟨rfl, Below.refl _ _⟩
    · have e4 : vs 4 = _ := hpre 4 (by decide) (by obtain rfl := Option.some.inj ho; rfl)
      obtain rfl := Option.some.inj ho
      simp only [canon, List.range, List.range.loop, List.foldl]
      go_simp
      refine (rdLen_calls _ _ _ _ j q w5 (blk_keep HD.out.2.1 HB5.out) (by omega)).mono ?_
      rintro e6 w6 ⟨rfl, hb6⟩
      exact ⟨rfl, hb6⟩
    · have e3 : vs 3 = _ := hpre 3 (by decide) (by obtain rfl := Option.some.inj ho; rfl)
      have e5 : vs 5 = _ := hpre 5 (by decide) (by obtain rfl := Option.some.inj ho; rfl)
      obtain rfl := Option.some.inj ho
      simp only [canon, List.range, List.range.loop, List.foldl]
      go_simp
      exact ⟨congrArg (Value.int .i64) (by rw [IntKind.wrap_i64]; omega), Below.refl _ _⟩
    · obtain rfl := Option.some.inj ho
      simp only [canon, List.range, List.range.loop, List.foldl]
      go_simp
      exact ⟨rfl, Below.refl _ _⟩
    · have e7 : vs 7 = _ := hpre 7 (by decide) (by obtain rfl := Option.some.inj ho; rfl)
      obtain rfl := Option.some.inj ho
      simp only [canon, List.range, List.range.loop, List.foldl]
      go_simp
      refine (kind_calls ve v kd w5 (HD.out.2.2.1.below HB5.out) (HD.out.2.2.2.1.below HB5.out).eof (HD.out.2.2.2.1.below HB5.out).eofE).mono ?_
      rintro e6 w6 ⟨rfl, hb6⟩
      exact ⟨rfl, hb6⟩
    · have e1 : vs 1 = _ := hpre 1 (by decide) (by obtain rfl := Option.some.inj ho; rfl)
      obtain rfl := Option.some.inj ho
      simp only [canon, List.range, List.range.loop, List.foldl]
      go_simp
      exact ⟨rfl, Below.refl _ _⟩
    · have e6 : vs 6 = _ := hpre 6 (by decide) (by obtain rfl := Option.some.inj ho; rfl)
      obtain rfl := Option.some.inj ho
      simp only [canon, List.range, List.range.loop, List.foldl]
      go_simp
      exact ⟨rfl, Below.refl _ _⟩
    · have e8 : vs 8 = _ := hpre 8 (by decide) (by obtain rfl := Option.some.inj ho; rfl)
      obtain rfl := Option.some.inj ho
      simp only [canon, List.range, List.range.loop, List.foldl]
      go_simp
      exact ⟨rfl, Below.refl _ _⟩
    · omega
  · intro vs w5 hb5 hr _
    have e9 : vs 9 = _ := hr 9 (by omega)
    have e10 : vs 10 = _ := hr 10 (by omega)
    have e11 : vs 11 = _ := hr 11 (by omega)
    have HB5 := Kp.mk (bel_then HB3.out (bel_then (bel_drew (Below.refl _ _)) hb5))
    clear hb5 hr
    refine wpAny_none (by kernel_rfl) ?_ _
    generalize hA : canon _ _ vs 12 = F
    have h6 : F.tmps[6]? = some (vs 9) := by rw [← hA, canon_get (i := 9) rfl (Nat.le_of_ble_eq_true rfl) 12 (by omega) (apart_of (by kernel_rfl))]
    have h7 : F.tmps[7]? = some (vs 10) := by rw [← hA, canon_get (i := 10) rfl (Nat.le_of_ble_eq_true rfl) 12 (by omega) (apart_of (by kernel_rfl))]
    have h8 : F.tmps[8]? = some (vs 11) := by rw [← hA, canon_get (i := 11) rfl (Nat.le_of_ble_eq_true rfl) 12 (by omega) (apart_of (by kernel_rfl))]
    have hD : F.defers = [] := by rw [← hA, canon_defers]
    rw [e9] at h6
    rw [e10] at h7
    rw [e11] at h8
    clear hA e9 e10 e11
    go_wp2
    refine bodyPost_ret (results_tmp3 rfl _ _ _) hD ?_
    refine ⟨?_, HB5.out⟩
    rw [Array.getD_eq_getD_getElem?, Array.getD_eq_getD_getElem?, Array.getD_eq_getD_getElem?, h6, h7, h8]
    have := li_of_rel HD.out.2.2.2.2
    rw [bl_length] at this
    exact this

end Go.Proofs.YtdppnlomhlnbkaaDoor
