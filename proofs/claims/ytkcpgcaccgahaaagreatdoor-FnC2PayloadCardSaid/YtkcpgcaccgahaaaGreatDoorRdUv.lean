/- The walk of varint.ReadUvarint over whatever reader of bytes. -/
import Derived.Test.YtkcpgcaccgahaaaGreatDoorRdA
import Derived.Test.YtkcpgcaccgahaaaGreatDoorErrLaid
import Derived.Test.YtkcpgcaccgahaaaGreatDoorUvA
namespace Go.Proofs.YtkcpgcaccgahaaaGreatDoor
open Go.RowKit

/-- The texts of the errors. -/
def txEof : List UInt8 := [69, 79, 70]
def txUeof : List UInt8 := [117, 110, 101, 120, 112, 101, 99, 116, 101, 100, 32, 69, 79, 70]

/-- The package-level variables that a reader of varints hands back, with their values. -/
structure RdErrs (ve vu vo vn : Value) (w : World) : Prop where
  eof : w.cell? ⟨0, 0, none⟩ = some ve
  eofE : ErrV ve txEof w
  ueof : w.cell? ⟨5, 0, none⟩ = some vu
  ueofE : ErrV vu txUeof w
  over : w.cell? ⟨6, 0, none⟩ = some vo
  overE : ∃ t, t ≠ txEof ∧ ErrV vo t w
  need : w.cell? ⟨7, 0, none⟩ = some vn
  needE : ∃ t, t ≠ txEof ∧ ErrV vn t w
theorem RdErrs.below {ve vu vo vn : Value} {w w1 : World} (h : RdErrs ve vu vo vn w) (hb : Below w.heap.size w w1) : RdErrs ve vu vo vn w1 := by
  obtain ⟨t, ht, h6⟩ := h.overE
  obtain ⟨t', ht', h8⟩ := h.needE
  exact ⟨cell_bel hb h.eof, h.eofE.below hb, cell_bel hb h.ueof, h.ueofE.below hb, cell_bel hb h.over, ⟨t, ht, h6.below hb⟩, cell_bel hb h.need, ⟨t', ht', h8.below hb⟩⟩
/-- An error that is not io.EOF. -/
def NotEof (v : Value) (w : World) : Prop := ∃ t, t ≠ txEof ∧ ErrV v t w
theorem NotEof.below {v : Value} {w w1 : World} (h : NotEof v w) (hb : Below w.heap.size w w1) : NotEof v w1 := by
  obtain ⟨t, ht, h⟩ := h; exact ⟨t, ht, h.below hb⟩
theorem RdErrs.overN {ve vu vo vn : Value} {w : World} (h : RdErrs ve vu vo vn w) : NotEof vo w := h.overE
theorem RdErrs.needN {ve vu vo vn : Value} {w : World} (h : RdErrs ve vu vo vn w) : NotEof vn w := h.needE
theorem RdErrs.ueofN {ve vu vo vn : Value} {w : World} (h : RdErrs ve vu vo vn w) : NotEof vu w := ⟨_, by decide, h.ueofE⟩

/-- A reader of bytes: a method, and the states that it goes through while it hands out bs. -/
structure ByteRdr (T : TypeId) (pv : Value) (fid : Nat) (bs : List UInt8) (ve vu vo vn : Value) (S : Nat → World → Prop) : Prop where
  meth : ∀ W, (method 453 T pv "ReadByte").run Tryz.prog W = .ok (fid, pv) W
  enter : ∀ args w, (callFunc fid args).run Tryz.prog w = .ok (.enter fid args) w
  byte : ∀ k w b, k ≤ 9 → S k w → bs[k]? = some b → Calls Tryz.prog fid #[pv] w fun e w' => e = .returned (.tuple #[.int .u8 (b.toNat : Int), .nilIface]) ∧ S (k + 1) w'
  fin : ∀ k w, S k w → bs[k]? = none → Calls Tryz.prog fid #[pv] w fun e w' => (∃ z : Int, e = .returned (.tuple #[.int .u8 z, ve])) ∧ S k w'
  errs : ∀ k w, S k w → RdErrs ve vu vo vn w
  drawn : ∀ k w n, S k w → S k (w.drewN n)

/-- What varint.ReadUvarint hands back. -/
def RuEnd (bs : List UInt8) (ve : Value) (S : Nat → World → Prop) (e : Ending) (w' : World) : Prop :=
  match uvRead bs with
  | some (x, n) => e = .returned (.tuple #[.int .u64 x, .nilIface]) ∧ S n w'
  | none => ∃ k v, S k w' ∧ e = .returned (.tuple #[.int .u64 0, v]) ∧ ((bs = [] ∧ v = ve) ∨ (bs ≠ [] ∧ NotEof v w'))
theorem ruEnd_some {bs : List UInt8} {ve : Value} {S : Nat → World → Prop} {w' : World} {x n : Nat} {X : Int} (h : uvRead bs = some (x, n)) (hx : X = (x : Int)) (hs : S n w') : RuEnd bs ve S (.returned (.tuple #[.int .u64 X, .nilIface])) w' := by
  subst hx; unfold RuEnd; rw [h]; exact ⟨rfl, hs⟩
theorem ruEnd_none {bs : List UInt8} {ve : Value} {S : Nat → World → Prop} {w' : World} {k : Nat} {v : Value} (h : uvRead bs = none) (hs : S k w') (hb : bs ≠ []) (hv : NotEof v w') : RuEnd bs ve S (.returned (.tuple #[.int .u64 0, v])) w' := by
  unfold RuEnd; rw [h]; exact ⟨k, v, hs, rfl, .inr ⟨hb, hv⟩⟩
theorem ruEnd_nil {ve : Value} {S : Nat → World → Prop} {w' : World} {k : Nat} (hs : S k w') : RuEnd [] ve S (.returned (.tuple #[.int .u64 0, ve])) w' :=
  ⟨k, ve, hs, rfl, .inl ⟨rfl, rfl⟩⟩

set_option maxHeartbeats 4000000 in
set_option maxRecDepth 100000 in
/-- varint.ReadUvarint. -/
theorem readUv_calls (T : TypeId) (pv : Value) (fid : Nat) (bs : List UInt8) (ve vu vo vn : Value) (S : Nat → World → Prop) (H : ByteRdr T pv fid bs ve vu vo vn S) (w : World) (h0 : S 0 w) :
    Calls Tryz.prog 119 #[.iface T pv] w fun e w' => RuEnd bs ve S e w' := by
  have hm := H.meth
  have hcf := H.enter
  have HH := Kp.mk H
  obtain ⟨Te, ue, rfl⟩ := (H.errs 0 w h0).eofE.iface
  obtain ⟨Tu, uu, rfl⟩ := (H.errs 0 w h0).ueofE.iface
  obtain ⟨_, _, ho⟩ := (H.errs 0 w h0).overE
  obtain ⟨To, uo, rfl⟩ := ho.iface
  obtain ⟨_, _, hn⟩ := (H.errs 0 w h0).needE
  obtain ⟨Tn, un, rfl⟩ := hn.iface
  have hq := errV_same (H.errs 0 w h0).eofE
  have H0 := Kp.mk h0
  clear H ho hn h0
  go_enter Tryz.func119, Tryz.ntmps119
  go_wp2
  go_loopw [4, 5] (fun vx vs wr => ∃ (k acc : Nat), k ≤ 9 ∧ Kp (k = 0 ∨ bs ≠ []) ∧ Kp (acc < 2 ^ (7 * k)) ∧ Kp (S k wr) ∧ vx = .int .u64 acc ∧ vs = .int .u64 (7 * k : Nat) ∧ Kp (uvRead bs = uvFrom k acc (bs.drop k)))
    (fun _ vs _ => 70 - (intOf vs).toNat)
  case atStart => exact ⟨0, 0, by omega, ⟨.inl rfl⟩, ⟨by simp⟩, H0, rfl, rfl, ⟨rfl⟩⟩
  case round =>
    obtain ⟨k, acc, hk9, hbn, hacc, hS, rfl, rfl, hrest⟩ := hrel
    cases hb : bs[k]? with
    | some b =>
      have hkl : k < bs.length := (List.getElem?_eq_some_iff.1 hb).1
      have hdrop : bs.drop k = b :: bs.drop (k + 1) := by rw [List.drop_eq_getElem_cons hkl, ← Option.some.inj ((List.getElem?_eq_getElem hkl).symm.trans hb)]
      rw [hdrop] at hrest
      have HB := Kp.mk (HH.out.byte k _ b hk9 hS.out hb)
      have hbt := b.toNat_lt
      have HNE : Kp (bs ≠ []) := ⟨by rintro rfl; simp at hkl⟩
      clear hb hkl hdrop
      go_wp2_with fail
      refine HB.out.mono ?_
      rintro e w1 ⟨rfl, hS1⟩
      have HS1 := Kp.mk hS1
      have HE1 := Kp.mk (HH.out.errs _ _ hS1)
      have co := HE1.out.over
      have cn := HE1.out.need
      clear hS1 HB hS
      go_wp2
      · go_quiet (fail)
        go_wp2
        go_ret2
        exact ruEnd_none (by rw [hrest.out]; exact uvF_zero (by assumption) (by omega) (by omega)) (HH.out.drawn _ _ _ HS1.out) HNE.out ((HE1.out.needN).below (below_self_drewN _ _))
      · go_ret2
        have h8 : k = 8 := by omega
        subst h8
        exact ruEnd_some (by rw [hrest.out]; exact uvF_last (by omega) (Or.inl (by assumption)) (by omega)) (by
          have h := uv_or acc b.toNat 8 (by omega) hacc.out (by omega)
          rw [u64_wrap_id _ (by omega) (by omega)] at h
          exact h) HS1.out
      · go_quiet (fail)
        go_wp2
        go_ret2
        exact ruEnd_none (by rw [hrest.out]; exact uvF_over (Or.inl ⟨by omega, by omega⟩)) (HH.out.drawn _ _ _ HS1.out) HNE.out ((HE1.out.overN).below (below_self_drewN _ _))
      · go_quiet (fail)
        go_wp2
        go_ret2
        exact ruEnd_none (by rw [hrest.out]; exact uvF_over (Or.inr (by omega))) (HH.out.drawn _ _ _ HS1.out) HNE.out ((HE1.out.overN).below (below_self_drewN _ _))
      · go_quiet (fail)
        go_wp2
        go_ret2
        exact ruEnd_none (by rw [hrest.out]; exact uvF_zero (by assumption) (by omega) (by omega)) (HH.out.drawn _ _ _ HS1.out) HNE.out ((HE1.out.needN).below (below_self_drewN _ _))
      · go_ret2
        have h8 : k = 0 := by omega
        subst h8
        have hz : b.toNat = 0 := by assumption
        exact ruEnd_some (by rw [hrest.out]; exact uvF_last (by omega) (Or.inr rfl) (by omega)) (by
          have h := uv_or acc b.toNat 0 (by omega) hacc.out (by omega)
          rw [hz] at h ⊢
          exact h) HS1.out
      · go_ret2
        exact ruEnd_some (by rw [hrest.out]; exact uvF_last (by omega) (Or.inl (by assumption)) (by omega)) (uv_or acc b.toNat k (by omega) hacc.out (by omega)) HS1.out
      · go_roundw
        case rel =>
          have ho := uv_or acc (b.toNat % 128) k (by omega) hacc.out (by omega)
          have hm : 2 ^ (7 * (k + 1)) = 128 * 2 ^ (7 * k) := by rw [show 7 * (k + 1) = 7 + 7 * k from by omega, Nat.pow_add]
          have h1 : (b.toNat % 128) * 2 ^ (7 * k) ≤ 127 * 2 ^ (7 * k) := Nat.mul_le_mul_right _ (by omega)
          have ha := hacc.out
          refine ⟨k + 1, acc + (b.toNat % 128) * 2 ^ (7 * k), by omega, ⟨.inr HNE.out⟩, ⟨by rw [hm]; omega⟩, HS1, ?_, by rw [show 7 * (k + 1) = 7 * k + 7 from by omega]; go_num, ⟨by rw [hrest.out]; exact uvF_more (by omega) (by omega)⟩⟩
          rw [u8_and127 _ (by omega) (by omega), u64_wrap_id ((b.toNat : Int) % 128) (by omega) (by omega)]
          exact congrArg (Value.int .u64) ho
        case measure => simp only [intOf]; omega
    | none =>
      have hz : Kp (uvRead bs = none) := ⟨by rw [hrest.out, List.drop_of_length_le (by rw [List.getElem?_eq_none_iff] at hb; exact hb)]; rfl⟩
      have HB := Kp.mk (HH.out.fin k _ hS.out hb)
      by_cases hk0 : k = 0
      · subst hk0
        have hnil : bs = [] := by rw [List.getElem?_eq_none_iff] at hb; exact List.eq_nil_of_length_eq_zero (by omega)
        have HNL := Kp.mk hnil
        clear hb hnil hrest hS
        go_wp2_with fail
        refine HB.out.mono ?_
        rintro e w1 ⟨⟨z, rfl⟩, hS1⟩
        have HS1 := Kp.mk hS1
        have ce := (HH.out.errs _ _ hS1).eof
        have cu := (HH.out.errs _ _ hS1).ueof
        clear hS1 HB
        go_wp2
        go_ret2
        rw [HNL.out]
        exact ruEnd_nil HS1.out
      · have HNE : Kp (bs ≠ []) := ⟨hbn.out.resolve_left hk0⟩
        have q1 : ((7 * (k : Int)) == 0) = false := beq_eq_false_iff_ne.2 (by omega)
        have q2 : ((7 * (k : Int)) != 0) = true := by rw [bne, q1]; rfl
        clear hb hrest hS
        go_wp2_with fail
        refine HB.out.mono ?_
        rintro e w1 ⟨⟨z, rfl⟩, hS1⟩
        have HS1 := Kp.mk hS1
        have HE1 := Kp.mk (HH.out.errs _ _ hS1)
        have ce := HE1.out.eof
        have cu := HE1.out.ueof
        clear hS1 HB
        go_wp2
        go_ret2
        exact ruEnd_none hz.out HS1.out HNE.out HE1.out.ueofN

end Go.Proofs.YtkcpgcaccgahaaaGreatDoor
