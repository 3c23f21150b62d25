/- Tidy identifiers: what they are, how they are written, that they are read again; the walks of spec.Tidy, laws.cdGood and zzFits1. -/
import Derived.Test.YtnhnkfdhkifahaaGreatDoorCdBy
namespace Go.Proofs.YtnhnkfdhkifahaaGreatDoor
open Go.RowKit

/-- An identifier as a value. -/
def cidV (v codec code : Nat) (s : ByteArray) : Value := .agg #[.int .u64 v, .int .u64 codec, .int .u64 code, .string s]
def Tidy (v codec code : Nat) (s : ByteArray) : Prop := (v = 0 ∧ codec = 112 ∧ code = 18 ∧ s.size = 32) ∨ (v = 1 ∧ codec < 2 ^ 63 ∧ code < 2 ^ 63)
instance (v codec code : Nat) (s : ByteArray) : Decidable (Tidy v codec code s) := by unfold Tidy; infer_instance
/-- Its bytes. -/
def cidB (v codec code : Nat) (s : ByteArray) : List UInt8 := if v = 0 then 18 :: 32 :: bl s else cdBytes codec code (bl s)

theorem Tidy.read {v codec code : Nat} {s : ByteArray} (h : Tidy v codec code s) (hs : s.size < 2 ^ 63) (more : List UInt8) : cdRead (cidB v codec code s ++ more) = some (v, codec, code, bl s, (cidB v codec code s).length) := by
  have hl := bl_length s
  rcases h with ⟨rfl, rfl, rfl, h⟩ | ⟨rfl, h1, h2⟩
  · have hz : cdZero (cidB 0 112 18 s ++ more) := ⟨by simp [cidB]; omega, rfl, rfl⟩
    rw [cdRead_zero hz (by simp [cidB]; omega)]
    simp only [cidB, if_true, Option.some.injEq, Prod.mk.injEq, true_and, List.length_cons]
    refine ⟨?_, by omega⟩
    show (bl s ++ more).take 32 = bl s
    rw [List.take_left' (by omega)]
  · have hz : ¬ cdZero (cidB 1 codec code s ++ more) := fun hz => by have := hz.2.1; simp [cidB, cdBytes] at this
    have e : cidB 1 codec code s = Lib.uvarint 1 ++ (Lib.uvarint codec ++ mhBytes code (bl s)) := by rw [uvarint_one]; simp [cidB, cdBytes]
    have e1 : uvRead (cidB 1 codec code s ++ more) = some (1, 1) := by
      rw [e, List.append_assoc, uvRead_uvarint _ (by rw [uvarint_one]; decide), uvarint_one]; rfl
    have e2 : (cidB 1 codec code s ++ more).drop 1 = Lib.uvarint codec ++ (mhBytes code (bl s) ++ more) := by
      rw [e, List.append_assoc, List.drop_left' (by rw [uvarint_one]; rfl), List.append_assoc]
    have e3 := uvRead_uvarint (mhBytes code (bl s) ++ more) (uvarint_lt63 h1)
    have e4 : (cidB 1 codec code s ++ more).drop (1 + (Lib.uvarint codec).length) = mhBytes code (bl s) ++ more := by
      rw [← List.drop_drop, e2, List.drop_left' rfl]
    rw [← e2] at e3
    have e5 := mhRead_mhBytes more h2 (by rw [hl]; exact hs)
    rw [← e4] at e5
    rw [cd_some hz e1 e3 e5]
    simp only [Option.some.injEq, Prod.mk.injEq, true_and]
    rw [e, List.length_append, List.length_append, uvarint_one]
    simp; omega
theorem Tidy.len {v codec code : Nat} {s : ByteArray} (h : Tidy v codec code s) (hs64 : s.size < 2 ^ 64) : (cidB v codec code s).length ≤ 64 + s.size ∧ 2 ≤ (cidB v codec code s).length := by
  have hl := bl_length s
  rcases h with ⟨rfl, rfl, rfl, h⟩ | ⟨rfl, h1, h2⟩
  · simp [cidB]; omega
  · simp only [cidB, if_neg (show ¬ (1 : Nat) = 0 by omega), cdBytes, mhBytes, List.length_cons, List.length_append]
    have a1 := Lib.uvarint_length64 (x := codec) (by omega)
    have a2 := Lib.uvarint_length64 (x := code) (by omega)
    have a3 := Lib.uvarint_pos codec
    have a4 := Lib.uvarint_pos code
    rw [hl]
    by_cases h64 : s.size < 2 ^ 64
    · have a5 := Lib.uvarint_length64 (x := s.size) h64
      omega
    · exact absurd hs64 h64
theorem cdz_uv' {bs : List UInt8} (hz : cdZero bs) : uvRead bs = some (18, 1) := by
  obtain ⟨h0, h1, h2⟩ := hz
  match bs, h1 with
  | a :: r, h1 =>
    simp at h1
    subst h1
    have := uvRead_uvarint (x := 18) r (by rw [Lib.uvarint_small (by omega)]; decide)
    rw [Lib.uvarint_small (by omega)] at this
    exact this
/-- What is read of a beginning is read of the whole. -/
theorem cdRead_more {bs more : List UInt8} {v codec code n : Nat} {d : List UInt8} (h : cdRead bs = some (v, codec, code, d, n)) : cdRead (bs ++ more) = some (v, codec, code, d, n) := by
  unfold cdRead at h
  split at h
  · rename_i hz
    split at h
    · cases h
    · rename_i hl
      simp only [Option.some.injEq, Prod.mk.injEq] at h
      obtain ⟨rfl, rfl, rfl, rfl, rfl⟩ := h
      have hz' : cdZero (bs ++ more) := by
        obtain ⟨h1, h2, h3⟩ := hz
        refine ⟨by rw [List.length_append]; omega, ?_, ?_⟩
        · rw [List.getElem?_append_left (by omega)]; exact h2
        · rw [List.getElem?_append_left (by omega)]; exact h3
      rw [cdRead_zero hz' (by rw [List.length_append]; omega)]
      rw [List.drop_append_of_le_length (by omega), List.take_append_of_le_length (by rw [List.length_drop]; omega)]
  · split at h
    · cases h
    · rename_i v' k h1
      split at h
      · rename_i hv
        subst hv
        split at h
        · cases h
        · rename_i codec' m h2
          split at h
          · cases h
          · rename_i code' d' n' h3
            simp only [Option.some.injEq, Prod.mk.injEq] at h
            obtain ⟨rfl, rfl, rfl, rfl, rfl⟩ := h
            obtain ⟨e1, e2, e3⟩ := uvRead_inv h1
            obtain ⟨f1, f2, f3⟩ := uvRead_inv h2
            obtain ⟨g1, g2, g3, g4⟩ := mhRead_inv h3
            have hd : bs = Lib.uvarint 1 ++ (Lib.uvarint codec' ++ (mhBytes code' d' ++ (bs.drop (k + m)).drop n')) := by
              conv => lhs; rw [e1, f1, List.drop_drop, g1]
            have hk : k = 1 := by rw [← e2, uvarint_one]; rfl
            subst hk
            have a1 : uvRead (bs ++ more) = some (1, 1) := by
              rw [hd, List.append_assoc, uvRead_uvarint _ (by rw [uvarint_one]; decide), uvarint_one]; rfl
            have b2 : (bs ++ more).drop 1 = Lib.uvarint codec' ++ ((mhBytes code' d' ++ (bs.drop (1 + m)).drop n') ++ more) := by
              conv => lhs; rw [hd, List.append_assoc, List.drop_left' (by rw [uvarint_one]; rfl), List.append_assoc]
            have a2 := uvRead_uvarint ((mhBytes code' d' ++ (bs.drop (1 + m)).drop n') ++ more) (uvarint_lt63 f3)
            rw [← b2, f2] at a2
            have b3 : (bs ++ more).drop (1 + m) = mhBytes code' d' ++ ((bs.drop (1 + m)).drop n' ++ more) := by
              rw [← List.drop_drop, b2, List.drop_left' f2, List.append_assoc]
            have a3 := mhRead_mhBytes ((bs.drop (1 + m)).drop n' ++ more) g3 g4
            rw [← b3, g2] at a3
            exact cd_some (fun hz => by rw [cdz_uv' hz] at a1; cases a1) a1 a2 a3
      · cases h
/-- What is cut off is none. -/
theorem Tidy.cut {v codec code : Nat} {s : ByteArray} (h : Tidy v codec code s) (hs : s.size < 2 ^ 63) (j : Nat) (hj : j < (cidB v codec code s).length) : cdRead ((cidB v codec code s).take j) = none := by
  cases hr : cdRead ((cidB v codec code s).take j) with
  | none => rfl
  | some p =>
    obtain ⟨v', c', x', d', n⟩ := p
    have h1 := (cdRead_le hr).1
    have h2 := cdRead_more (more := (cidB v codec code s).drop j) hr
    have h3 := h.read hs []
    rw [List.append_nil] at h3
    rw [List.take_append_drop, h3] at h2
    simp only [Option.some.injEq, Prod.mk.injEq] at h2
    rw [List.length_take] at h1
    omega

set_option maxHeartbeats 4000000 in
set_option maxRecDepth 100000 in
/-- spec.Tidy. -/
theorem tidy_calls (v codec code : Nat) (s : ByteArray) (w : World) :
    Calls Tryz.prog 5 #[.agg #[.int .u64 v, .int .u64 codec, .int .u64 code, .string s]] w fun e w' => e = .returned (.bool (decide (Tidy v codec code s))) ∧ Below w.heap.size w w' := by
  by_cases h0 : v = 0
  · subst h0
    by_cases h1 : codec = 112
    · subst h1
      by_cases h2 : code = 18
      · subst h2
        by_cases h3 : s.size = 32
        · have q : ((s.size : Int) == 32) = true := by rw [h3]; rfl
          go_enter Tryz.func5, Tryz.ntmps5
          go_wp2
          go_ret
          exact ⟨by simp [Tidy, h3], bel_alloc (Below.refl _ _) _⟩
        · have q : ((s.size : Int) == 32) = false := beq_eq_false_iff_ne.2 (by omega)
          go_enter Tryz.func5, Tryz.ntmps5
          go_wp2
          go_ret
          exact ⟨by simp [Tidy, h3], bel_alloc (Below.refl _ _) _⟩
      · have q : ((code : Int) == 18) = false := beq_eq_false_iff_ne.2 (by omega)
        go_enter Tryz.func5, Tryz.ntmps5
        go_wp2
        go_ret
        exact ⟨by simp [Tidy, h2], bel_alloc (Below.refl _ _) _⟩
    · have q : ((codec : Int) == 112) = false := beq_eq_false_iff_ne.2 (by omega)
      go_enter Tryz.func5, Tryz.ntmps5
      go_wp2
      go_ret
      exact ⟨by simp [Tidy, h1], bel_alloc (Below.refl _ _) _⟩
  · have q0 : ((v : Int) == 0) = false := beq_eq_false_iff_ne.2 (by omega)
    by_cases h1 : v = 1
    · subst h1
      by_cases h2 : codec < 2 ^ 63
      · have qcodec : decide ((codec : Int) < 9223372036854775808) = true := decide_eq_true (by omega)
        by_cases h3 : code < 2 ^ 63
        · have qcode : decide ((code : Int) < 9223372036854775808) = true := decide_eq_true (by omega)
          have hT : Tidy 1 codec code s := .inr ⟨rfl, h2, h3⟩
          have HT := Kp.mk hT
          clear h2 h3 hT
          go_enter Tryz.func5, Tryz.ntmps5
          go_wp2
          go_ret
          exact ⟨by rw [decide_eq_true HT.out]; rfl, bel_alloc (Below.refl _ _) _⟩
        · have qcode : decide ((code : Int) < 9223372036854775808) = false := decide_eq_false (by omega)
          have hT : ¬ Tidy 1 codec code s := by unfold Tidy; omega
          have HT := Kp.mk hT
          clear h2 h3 hT
          go_enter Tryz.func5, Tryz.ntmps5
          go_wp2
          go_ret
          exact ⟨by rw [decide_eq_false HT.out]; rfl, bel_alloc (Below.refl _ _) _⟩
      · have qcodec : decide ((codec : Int) < 9223372036854775808) = false := decide_eq_false (by omega)
        have hT : ¬ Tidy 1 codec code s := by unfold Tidy; omega
        have HT := Kp.mk hT
        clear h2 hT
        go_enter Tryz.func5, Tryz.ntmps5
        go_wp2
        go_ret
        exact ⟨by rw [decide_eq_false HT.out]; rfl, bel_alloc (Below.refl _ _) _⟩
    · have q1 : ((v : Int) == 1) = false := beq_eq_false_iff_ne.2 (by omega)
      have hT : ¬ Tidy v codec code s := by unfold Tidy; omega
      have HT := Kp.mk hT
      clear h0 h1 hT
      go_enter Tryz.func5, Tryz.ntmps5
      go_wp2
      go_ret
      exact ⟨by rw [decide_eq_false HT.out]; rfl, bel_alloc (Below.refl _ _) _⟩

set_option maxHeartbeats 1000000 in
/-- laws.zzFits1. -/
theorem fits1_calls (v codec code : Nat) (s : ByteArray) (w : World) :
    Calls Tryz.prog 8 #[.agg #[.int .u64 v, .int .u64 codec, .int .u64 code, .string s]] w fun e w' => e = .returned (.bool (decide (s.size ≤ 2147483647))) ∧ Below w.heap.size w w' := by
  by_cases h : s.size ≤ 2147483647
  · rw [decide_eq_true h]
    go_enter Tryz.func8, Tryz.ntmps8
    go_wp2
    go_ret
    exact ⟨rfl, bel_alloc (Below.refl _ _) _⟩
  · rw [decide_eq_false h]
    go_enter Tryz.func8, Tryz.ntmps8
    go_wp2
    go_ret
    exact ⟨rfl, bel_alloc (Below.refl _ _) _⟩































/-- impl.cidIn of a tidy identifier. -/
theorem cidIn_calls (v codec code : Nat) (s : ByteArray) (w : World) (h : Tidy v codec code s) (hs : s.size ≤ 1073741824) (he : MhErrs w) :
    Calls Tryz.prog 11 #[.agg #[.int .u64 v, .int .u64 codec, .int .u64 code, .string s]] w fun e w' => e = .returned (.tuple #[.agg #[.string (strB (cidB v codec code s))], .bool true]) ∧ Below w.heap.size w w' := by
  rcases h with ⟨rfl, rfl, rfl, h⟩ | ⟨rfl, h1, h2⟩
  · exact cidIn0_calls s w h he
  · exact cidIn1_calls s codec code w (by omega) (by omega) hs







end Go.Proofs.YtnhnkfdhkifahaaGreatDoor
