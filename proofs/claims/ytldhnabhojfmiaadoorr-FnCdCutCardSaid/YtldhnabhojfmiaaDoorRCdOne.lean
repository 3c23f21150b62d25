/- The walk of laws.cdOne. -/
import Derived.Test.YtldhnabhojfmiaaDoorRBldA
import Derived.Test.YtldhnabhojfmiaaDoorRCdA
namespace Go.Proofs.YtldhnabhojfmiaaDoorR
open Go.RowKit

theorem one_bytes : strB (cdBytes 85 0 (bl ⟨#[97]⟩)) = ⟨#[1, 85, 0, 1, 97]⟩ := by
  have h : bl ⟨#[97]⟩ = [97] := rfl
  rw [h, cdBytes, mhBytes, Lib.uvarint_small (by omega), Lib.uvarint_small (by omega), Lib.uvarint_small (by simp)]
  rfl
theorem one_read : cdRead (bl ⟨#[1, 85, 0, 1, 97]⟩) = some (1, 85, 0, [97], 5) := by kernel_rfl

set_option maxHeartbeats 4000000 in
set_option maxRecDepth 100000 in
theorem cdOne_calls (w : World) (he : CdErrs w) :
    Calls Tryd.prog 18 #[] w fun e w' => e = .returned (.bool true) ∧ Below w.heap.size w w' := by
  have HC : Kp (∀ w, Calls Tryd.prog 19 #[.agg #[.int .u64 1, .int .u64 85, .int .u64 0, .string ⟨#[97]⟩]] w fun e w' => e = .returned (.tuple #[.string ⟨#[1, 85, 0, 1, 97]⟩, .bool true]) ∧ Below w.heap.size w w') := ⟨fun w => by
    have h := cdBy1_calls ⟨#[97]⟩ 85 0 w (by omega) (by omega) (by decide)
    rw [one_bytes] at h
    exact h⟩
  have HR : Kp (∀ w, CdErrs w → Calls Tryd.prog 16 #[.string ⟨#[1, 85, 0, 1, 97]⟩] w fun e w' => e = .returned (.tuple #[.agg #[.int .u64 1, .int .u64 85, .int .u64 0, .string ⟨#[97]⟩], .int .i64 5, .bool true]) ∧ Below w.heap.size w w') := ⟨fun w he => by
    refine (cdRd_calls ⟨#[1, 85, 0, 1, 97]⟩ w (by decide) he).mono ?_
    rintro e w1 ⟨hu, hb⟩
    unfold CrEnd at hu
    rw [one_read] at hu
    exact ⟨hu, hb⟩⟩
  have HE := Kp.mk he
  clear he
  go_enter Tryd.func18, Tryd.ntmps18
  go_wp2_with fail
  refine (HC.out _).mono ?_
  rintro e w1 ⟨rfl, hb⟩
  have HB1 := Kp.mk (bel_new hb)
  have HG1 := Kp.mk (blk_new hb)
  clear hb HC
  go_wp2_with fail
  refine (HR.out _ (HE.out.below HB1.out)).mono ?_
  rintro e w2 ⟨rfl, hb⟩
  have HB2 := Kp.mk (bel_then HB1.out hb)
  have hg := blk_keep HG1.out hb
  clear hb HB1 HR HG1
  have c0 := fun o => blk_cell (blk_keep hg (bel_alloc (Below.refl _ _) o)) 0
  have c1 := fun o => blk_cell (blk_keep hg (bel_alloc (Below.refl _ _) o)) 1
  have c2 := fun o => blk_cell (blk_keep hg (bel_alloc (Below.refl _ _) o)) 2
  have c3 := fun o => blk_cell (blk_keep hg (bel_alloc (Below.refl _ _) o)) 3
  clear hg
  go_wp2_with fail
  go_ret
  exact ⟨rfl, bel_alloc HB2.out _⟩

end Go.Proofs.YtldhnabhojfmiaaDoorR
