/- Some texts in one: CdRd, CdRd2. -/
import Derived.Test.YtgjocdnpephcgaaDoorCidFromA
import Derived.Test.YtgjocdnpephcgaaDoorCidFrom2
import Derived.Test.YtgjocdnpephcgaaDoorCidFrom3
namespace Go.Proofs.YtgjocdnpephcgaaDoor
open Go.RowKit


























theorem cdRead_le {bs : List UInt8} {v codec code n : Nat} {d : List UInt8} (h : cdRead bs = some (v, codec, code, d, n)) : n ≤ bs.length ∧ d.length ≤ n := by
  unfold cdRead at h
  split at h
  · split at h
    · cases h
    · simp only [Option.some.injEq, Prod.mk.injEq] at h
      obtain ⟨rfl, rfl, rfl, rfl, rfl⟩ := h
      rw [List.length_take]; omega
  · split at h
    · cases h
    · rename_i v' k h1
      split at h
      · rename_i hv
        subst hv
        split at h
        · cases h
        · rename_i codec' m h2
          split at h
          · cases h
          · rename_i code' d' n' h3
            simp only [Option.some.injEq, Prod.mk.injEq] at h
            obtain ⟨rfl, rfl, rfl, rfl, rfl⟩ := h
            obtain ⟨e1, e2, _⟩ := cd_inv h1 h2 h3
            have e3 := congrArg List.length e1
            rw [List.length_take, e2] at e3
            refine ⟨by omega, ?_⟩
            have e4 : d'.length ≤ (cdBytes codec' code' d').length := by simp only [cdBytes, mhBytes, List.length_cons, List.length_append]; omega
            omega
      · cases h

/-- impl.cidOut of an identifier that is read. -/
theorem cidOutRead_calls (bs : List UInt8) (v codec code n : Nat) (d : List UInt8) (w : World) (h : cdRead bs = some (v, codec, code, d, n)) (hl : bs.length ≤ 2147483647) (he : MhErrs w) :
    Calls Tryd.prog 14 #[.agg #[.string (strB (bs.take n))]] w fun e w' => e = .returned (.agg #[.int .u64 v, .int .u64 codec, .int .u64 code, .string (strB d)]) ∧ Below w.heap.size w w' := by
  unfold cdRead at h
  split at h
  · rename_i hz
    split at h
    · cases h
    · simp only [Option.some.injEq, Prod.mk.injEq] at h
      obtain ⟨rfl, rfl, rfl, rfl, rfl⟩ := h
      rw [cd0_shape hz (by omega)]
      exact cidOut0_calls _ w (by rw [List.length_take, List.length_drop]; omega) he
  · split at h
    · cases h
    · rename_i v' k h1
      split at h
      · rename_i hv
        subst hv
        split at h
        · cases h
        · rename_i codec' m h2
          split at h
          · cases h
          · rename_i code' d' n' h3
            simp only [Option.some.injEq, Prod.mk.injEq] at h
            obtain ⟨rfl, rfl, rfl, rfl, rfl⟩ := h
            obtain ⟨e1, e2, e3, e4, e5, e6, e7⟩ := cd_inv h1 h2 h3
            exact cidOut1_calls _ codec' code' d' m _ w ⟨by rw [bl_strB]; exact e1, by rw [strB_size, List.length_take]; omega, e4, rfl, e5, e6⟩ he
      · cases h

end Go.Proofs.YtgjocdnpephcgaaDoor
namespace Go.Proofs.YtgjocdnpephcgaaDoor
open Go.RowKit

/-- What impl.CdRead hands back. -/
def CrEnd (bs : List UInt8) (e : Ending) : Prop :=
  match cdRead bs with
  | some (v, codec, code, d, n) => e = .returned (.tuple #[.agg #[.int .u64 v, .int .u64 codec, .int .u64 code, .string (strB d)], .int .i64 n, .bool true])
  | none => e = .returned (.tuple #[.agg #[.int .u64 0, .int .u64 0, .int .u64 0, .string ⟨#[]⟩], .int .i64 0, .bool false])













































































end Go.Proofs.YtgjocdnpephcgaaDoor
