/- Some texts in one: CdRd, CdRd2. -/
import Derived.Test.YtkcpgcaccgahaaaGreatDoorCidFromA
import Derived.Test.YtkcpgcaccgahaaaGreatDoorCidFrom2
import Derived.Test.YtkcpgcaccgahaaaGreatDoorCidFrom3
namespace Go.Proofs.YtkcpgcaccgahaaaGreatDoor
open Go.RowKit

/-- cid.CidFromBytes. -/
theorem cidFrom_calls (A : Option Addr) (n c : Nat) (bs : List UInt8) (w : World) (hr : RdB w A n c bs) (he : CdErrs w) (hn : n ≤ 2147483647) :
    Calls Tryz.prog 155 #[.slice A n c] w fun e w' => CfEnd bs e ∧ Below w.heap.size w w' := by
  by_cases hz : cdZero bs
  · by_cases h34 : n < 34
    · exact cidFrom_short A n c bs w hr he hz h34
    · exact cidFrom_zero A n c bs w hr he hz (by omega)
  have hl := hr.len
  obtain ⟨su, hsu⟩ := he.undef
  have HU0 := Kp.mk hsu
  have HR := Kp.mk hr
  have HE := Kp.mk he
  have HZ := Kp.mk hz
  have HF1 := Kp.mk (fun ob => fromUv_calls A n c bs (w.alloc ob) (hr.below (bel_alloc (Below.refl _ _) ob)) (he.mh.uv.below (bel_alloc (Below.refl _ _) ob)))
  by_cases h2 : n ≤ 2
  · exact cidFrom_oneA A n c bs w su HU0 HR HE HZ hn HF1 h2
  obtain ⟨g, o, rfl, hc⟩ := hr.lies (by omega)
  have hc0 : ∀ ob, (w.alloc ob).cell? ⟨g, o, none⟩ = some (.int .u8 ((bs[0]'(by omega)).toNat : Int)) := fun ob => cell_bel (bel_alloc (Below.refl _ _) ob) (by have h := hc 0 (by omega); rwa [Nat.add_zero] at h)
  have hc1 : ∀ ob, (w.alloc ob).cell? ⟨g, o + 1, none⟩ = some (.int .u8 ((bs[1]'(by omega)).toNat : Int)) := fun ob => cell_bel (bel_alloc (Below.refl _ _) ob) (hc 1 (by omega))
  by_cases b0 : (bs[0]'(by omega)).toNat = 18
  · have b1 : ¬ (bs[1]'(by omega)).toNat = 32 := fun h => hz ⟨by omega, by rw [List.getElem?_eq_getElem (by omega), ← UInt8.toNat_inj.1 (show (18 : UInt8).toNat = _ from b0.symm)], by rw [List.getElem?_eq_getElem (by omega), ← UInt8.toNat_inj.1 (show (32 : UInt8).toNat = _ from h.symm)]⟩
    rw [b0] at hc0
    exact cidFrom_oneB _ n c bs w su HU0 HR HE HZ hn HF1 g o _ rfl (by omega) hc0 hc1 (beq_eq_false_iff_ne.2 (by omega))
  · exact cidFrom_oneC _ n c bs w su HU0 HR HE HZ hn HF1 g o _ rfl (by omega) hc0 (beq_eq_false_iff_ne.2 (by omega))

theorem cdRead_le {bs : List UInt8} {v codec code n : Nat} {d : List UInt8} (h : cdRead bs = some (v, codec, code, d, n)) : n ≤ bs.length ∧ d.length ≤ n := by
  unfold cdRead at h
  split at h
  · split at h
    · cases h
    · simp only [Option.some.injEq, Prod.mk.injEq] at h
      obtain ⟨rfl, rfl, rfl, rfl, rfl⟩ := h
      rw [List.length_take]; omega
  · split at h
    · cases h
    · rename_i v' k h1
      split at h
      · rename_i hv
        subst hv
        split at h
        · cases h
        · rename_i codec' m h2
          split at h
          · cases h
          · rename_i code' d' n' h3
            simp only [Option.some.injEq, Prod.mk.injEq] at h
            obtain ⟨rfl, rfl, rfl, rfl, rfl⟩ := h
            obtain ⟨e1, e2, _⟩ := cd_inv h1 h2 h3
            have e3 := congrArg List.length e1
            rw [List.length_take, e2] at e3
            refine ⟨by omega, ?_⟩
            have e4 : d'.length ≤ (cdBytes codec' code' d').length := by simp only [cdBytes, mhBytes, List.length_cons, List.length_append]; omega
            omega
      · cases h

/-- impl.cidOut of an identifier that is read. -/
theorem cidOutRead_calls (bs : List UInt8) (v codec code n : Nat) (d : List UInt8) (w : World) (h : cdRead bs = some (v, codec, code, d, n)) (hl : bs.length ≤ 2147483647) (he : MhErrs w) :
    Calls Tryz.prog 56 #[.agg #[.string (strB (bs.take n))]] w fun e w' => e = .returned (.agg #[.int .u64 v, .int .u64 codec, .int .u64 code, .string (strB d)]) ∧ Below w.heap.size w w' := by
  unfold cdRead at h
  split at h
  · rename_i hz
    split at h
    · cases h
    · simp only [Option.some.injEq, Prod.mk.injEq] at h
      obtain ⟨rfl, rfl, rfl, rfl, rfl⟩ := h
      rw [cd0_shape hz (by omega)]
      exact cidOut0_calls _ w (by rw [List.length_take, List.length_drop]; omega) he
  · split at h
    · cases h
    · rename_i v' k h1
      split at h
      · rename_i hv
        subst hv
        split at h
        · cases h
        · rename_i codec' m h2
          split at h
          · cases h
          · rename_i code' d' n' h3
            simp only [Option.some.injEq, Prod.mk.injEq] at h
            obtain ⟨rfl, rfl, rfl, rfl, rfl⟩ := h
            obtain ⟨e1, e2, e3, e4, e5, e6, e7⟩ := cd_inv h1 h2 h3
            exact cidOut1_calls _ codec' code' d' m _ w ⟨by rw [bl_strB]; exact e1, by rw [strB_size, List.length_take]; omega, e4, rfl, e5, e6⟩ he
      · cases h

end Go.Proofs.YtkcpgcaccgahaaaGreatDoor
namespace Go.Proofs.YtkcpgcaccgahaaaGreatDoor
open Go.RowKit

/-- What impl.CdRead hands back. -/
def CrEnd (bs : List UInt8) (e : Ending) : Prop :=
  match cdRead bs with
  | some (v, codec, code, d, n) => e = .returned (.tuple #[.agg #[.int .u64 v, .int .u64 codec, .int .u64 code, .string (strB d)], .int .i64 n, .bool true])
  | none => e = .returned (.tuple #[.agg #[.int .u64 0, .int .u64 0, .int .u64 0, .string ⟨#[]⟩], .int .i64 0, .bool false])













































































end Go.Proofs.YtkcpgcaccgahaaaGreatDoor
