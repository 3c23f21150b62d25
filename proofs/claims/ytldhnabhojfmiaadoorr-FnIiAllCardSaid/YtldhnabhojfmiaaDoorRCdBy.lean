/- The walk of impl.CdBytes of an identifier that is read. -/
import Derived.Test.YtldhnabhojfmiaaDoorRCid0
import Derived.Test.YtldhnabhojfmiaaDoorRCdA
namespace Go.Proofs.YtldhnabhojfmiaaDoorR
open Go.RowKit

theorem head_bl (s : ByteArray) (n : Nat) : bl (s.extract 0 n) = (bl s).take n := by
  rw [bl_extract]; rfl

/-- impl.CdBytes of an identifier that is read. -/
theorem cdByRead_calls (bs : List UInt8) (v codec code n : Nat) (d : List UInt8) (w : World) (h : cdRead bs = some (v, codec, code, d, n)) (hl : bs.length ≤ 1073741824) (he : MhErrs w) :
    Calls Tryd.prog 19 #[.agg #[.int .u64 v, .int .u64 codec, .int .u64 code, .string (strB d)]] w fun e w' => e = .returned (.tuple #[.string (strB (bs.take n)), .bool true]) ∧ Below w.heap.size w w' := by
  unfold cdRead at h
  split at h
  · rename_i hz
    split at h
    · cases h
    · simp only [Option.some.injEq, Prod.mk.injEq] at h
      obtain ⟨rfl, rfl, rfl, rfl, rfl⟩ := h
      rw [cd0_shape hz (by omega)]
      have h := cdBy0_calls (strB ((bs.drop 2).take 32)) w (by rw [strB_size, List.length_take, List.length_drop]; omega) he
      rw [bl_strB] at h
      exact h
  · split at h
    · cases h
    · rename_i v' k h1
      split at h
      · rename_i hv
        subst hv
        split at h
        · cases h
        · rename_i codec' m h2
          split at h
          · cases h
          · rename_i code' d' n' h3
            simp only [Option.some.injEq, Prod.mk.injEq] at h
            obtain ⟨rfl, rfl, rfl, rfl, rfl⟩ := h
            obtain ⟨e1, e2, e3, e4, e5, e6, e7⟩ := cd_inv h1 h2 h3
            have hm := mhRead_lt h3
            rw [List.length_drop] at hm
            have h := cdBy1_calls (strB d') codec' code' w (by omega) (by omega) (by rw [strB_size]; omega)
            rw [bl_strB, ← e1] at h
            exact h
      · cases h

end Go.Proofs.YtldhnabhojfmiaaDoorR
