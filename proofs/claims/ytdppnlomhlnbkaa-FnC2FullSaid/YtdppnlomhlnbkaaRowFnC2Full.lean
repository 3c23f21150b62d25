/- The law laws.FnC2Full: for every input that can be read the call returns true, and the input reads as it did. -/
import Derived.Test.YtdppnlomhlnbkaaRows
import Derived.Test.YtdppnlomhlnbkaaC2Full
import Derived.Test.YtdppnlomhlnbkaaFive
import Derived.Test.YtdppnlomhlnbkaaLaid
import Derived.ProofKit
import Derived.LaidMore
import Derived.OpenShut
import Derived.ShutString
import Derived.Stop.Joined
namespace Go.Proofs.Ytdppnlomhlnbkaa.fnC2Full
open Go.ChangeShapes Go.WideShapes Go.ChangeAt Go.WideMaps Go.WideElems Go.RowKit
open Go.ChangeMaps (open_string shut_string)
theorem own : ownKnob Try.prog.godebug = none := by kernel_rfl
set_option maxRecDepth 100000 in
theorem lifted (os : Os) (started : os.Started) (H : Type) (enc : TypeId × Value → H) :
    ReturnsInHanded {} Try.checked os 3 .any (Rows.fnC2FullSpec.pre6 enc Try.prog Try.f3 Rows.fnC2FullRow.domain false) (Rows.fnC2FullSpec.post enc Try.prog Try.f3 false true false false) := by
  refine returnsInHanded_of_change_sized (C := Try.checked) own started (by kernel_rfl) Try.func3
    (ChangeSpec.witness6 (enc := enc) (C := Try.checked) false ⟨#[], #[.agg #[.int .u64 0, .int .u64 0, .int .u64 0, .int .u64 0, .int .u64 0], .bool false], []⟩ 8 (by kernel_rfl) (by kernel_rfl) (by kernel_rfl) (by kernel_rfl)) ?_
  intro W base args ds gs before hval0 hW _ _ _
  have hval : ∀ (j : Nat) t v, Try.f3.params[j]? = some t → args[j]? = some v → Value.okWide Try.prog W .any base t v := hval0
  have hW' := hW
  obtain ⟨p, q, hA0, hV, rfl, _, _⟩ := hW
  have hA : DataW.TrodAll enc Try.prog W 0 (fun _ => true) true Try.f3.params.toList args.toList ds p := hA0
  rw [Try.params3] at hA hval
  obtain ⟨v0, vs0, d0, ds0, p0, q0, hargs, rfl, rfl, t0, r0⟩ := trodAll_cons hA
  obtain ⟨v1, vs1, d1, ds1, p1, q1, rfl, rfl, rfl, t1, r1⟩ := trodAll_cons r0
  obtain ⟨rfl, rfl, rfl⟩ := trodAll_nil r1
  obtain rfl : args = #[v0, v1] := by cases args; simp_all
  obtain ⟨rfl, rfl⟩ := trodVars_none hV
  obtain ⟨z0_0, z0_1, z0_2, z0_3, z0_4, rfl, rfl, rfl, wf0_0, wf0_1, wf0_2, wf0_3, wf0_4⟩ := open_five Try.underlying24 (by kernel_rfl) (by kernel_rfl) Try.underlying22 rfl rfl rfl rfl rfl (hval 0 24 v0 rfl rfl) t0
  obtain ⟨a1, rfl, rfl, rfl⟩ := open_bool Try.underlying4 (hval 1 4 v1 rfl rfl) t1
  have b0_0 := bounds_u64 wf0_0
  obtain ⟨a0_0, rfl⟩ := Int.eq_ofNat_of_zero_le b0_0.1
  have h0_0 : a0_0 < 18446744073709551616 := by omega
  have b0_1 := bounds_u64 wf0_1
  obtain ⟨a0_1, rfl⟩ := Int.eq_ofNat_of_zero_le b0_1.1
  have h0_1 : a0_1 < 18446744073709551616 := by omega
  have b0_2 := bounds_u64 wf0_2
  obtain ⟨a0_2, rfl⟩ := Int.eq_ofNat_of_zero_le b0_2.1
  have h0_2 : a0_2 < 18446744073709551616 := by omega
  have b0_3 := bounds_u64 wf0_3
  obtain ⟨a0_3, rfl⟩ := Int.eq_ofNat_of_zero_le b0_3.1
  have h0_3 : a0_3 < 18446744073709551616 := by omega
  have b0_4 := bounds_u64 wf0_4
  obtain ⟨a0_4, rfl⟩ := Int.eq_ofNat_of_zero_le b0_4.1
  have h0_4 : a0_4 < 18446744073709551616 := by omega
  clear hA0 hval0
  refine (c2Full_walk a0_0 a0_1 a0_2 a0_3 a0_4 a1 W h0_0 h0_1 h0_2 h0_3 h0_4).mono fun e W' ⟨he, bel⟩ => ?_
  subst he
  exact ⟨_, rfl, _, _, _, [], _, [], hW', trodAll_mk1 (shut_bool Try.underlying4 _), (trodAll_cons_mk (shut_five Try.underlying24 (by kernel_rfl) (by kernel_rfl) Try.underlying22 rfl rfl rfl rfl rfl wf0_0 wf0_1 wf0_2 wf0_3 wf0_4) (trodAll_cons_mk (shut_bool Try.underlying4 a1) trodAll_mk0)), rfl, bel.frame _, fun h => by cases h⟩
theorem over : Rows.FnC2FullSaid :=
  OpenClaim.holds_of_wide 3 Try.f3 rfl rfl rfl rfl rfl rfl rfl ⟨rfl, rfl, rfl, rfl, rfl⟩ rfl rfl rfl rfl rfl (by kernel_rfl) Try.func3 (by kernel_rfl)
    (of_decide_eq_true (by kernel_rfl)) (by unfold Func.isWrapper; first | (rw [if_pos (by decide +kernel)]; kernel_rfl) | (rw [if_neg (by decide +kernel)]; exact ⟨rfl, rfl⟩))
    (fun os started H enc _ => lifted os started H enc)
end Go.Proofs.Ytdppnlomhlnbkaa.fnC2Full
namespace Go.Proofs.Ytdppnlomhlnbkaa
theorem fnC2Full_holds : Rows.FnC2FullSaid := fnC2Full.over
end Go.Proofs.Ytdppnlomhlnbkaa
