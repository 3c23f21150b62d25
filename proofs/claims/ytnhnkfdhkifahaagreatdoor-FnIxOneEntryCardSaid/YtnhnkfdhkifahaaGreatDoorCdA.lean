/- Some texts in one: CdRd, CdRd2. -/
import Derived.Test.YtnhnkfdhkifahaaGreatDoorCidFromA
import Derived.Test.YtnhnkfdhkifahaaGreatDoorCidFrom2
import Derived.Test.YtnhnkfdhkifahaaGreatDoorCidFrom3
namespace Go.Proofs.YtnhnkfdhkifahaaGreatDoor
open Go.RowKit


























theorem cdRead_le {bs : List UInt8} {v codec code n : Nat} {d : List UInt8} (h : cdRead bs = some (v, codec, code, d, n)) : n ≤ bs.length ∧ d.length ≤ n := by
  unfold cdRead at h
  split at h
  · split at h
    · cases h
    · simp only [Option.some.injEq, Prod.mk.injEq] at h
      obtain ⟨rfl, rfl, rfl, rfl, rfl⟩ := h
      rw [List.length_take]; omega
  · split at h
    · cases h
    · rename_i v' k h1
      split at h
      · rename_i hv
        subst hv
        split at h
        · cases h
        · rename_i codec' m h2
          split at h
          · cases h
          · rename_i code' d' n' h3
            simp only [Option.some.injEq, Prod.mk.injEq] at h
            obtain ⟨rfl, rfl, rfl, rfl, rfl⟩ := h
            obtain ⟨e1, e2, _⟩ := cd_inv h1 h2 h3
            have e3 := congrArg List.length e1
            rw [List.length_take, e2] at e3
            refine ⟨by omega, ?_⟩
            have e4 : d'.length ≤ (cdBytes codec' code' d').length := by simp only [cdBytes, mhBytes, List.length_cons, List.length_append]; omega
            omega
      · cases h































end Go.Proofs.YtnhnkfdhkifahaaGreatDoor
namespace Go.Proofs.YtnhnkfdhkifahaaGreatDoor
open Go.RowKit

/-- What impl.CdRead hands back. -/
def CrEnd (bs : List UInt8) (e : Ending) : Prop :=
  match cdRead bs with
  | some (v, codec, code, d, n) => e = .returned (.tuple #[.agg #[.int .u64 v, .int .u64 codec, .int .u64 code, .string (strB d)], .int .i64 n, .bool true])
  | none => e = .returned (.tuple #[.agg #[.int .u64 0, .int .u64 0, .int .u64 0, .string ⟨#[]⟩], .int .i64 0, .bool false])













































































end Go.Proofs.YtnhnkfdhkifahaaGreatDoor
