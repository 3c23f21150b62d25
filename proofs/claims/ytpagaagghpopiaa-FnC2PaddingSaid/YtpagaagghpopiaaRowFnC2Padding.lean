/- The law laws.FnC2Padding: for every input that can be read the call returns true, and the input reads as it did. -/
import Derived.Test.YtpagaagghpopiaaRows
import Derived.Test.YtpagaagghpopiaaC2Pad
import Derived.Test.YtpagaagghpopiaaLaid
import Derived.ProofKit
import Derived.LaidMore
import Derived.OpenShut
import Derived.ShutString
import Derived.Stop.Joined
namespace Go.Proofs.Ytpagaagghpopiaa.fnC2Padding
open Go.ChangeShapes Go.WideShapes Go.ChangeAt Go.WideMaps Go.WideElems Go.RowKit
open Go.ChangeMaps (open_string shut_string)
theorem own : ownKnob Try.prog.godebug = none := by kernel_rfl
set_option maxRecDepth 100000 in
theorem lifted (os : Os) (started : os.Started) (H : Type) (enc : TypeId × Value → H) :
    ReturnsInHanded {} Try.checked os 3 .any (Rows.fnC2PaddingSpec.pre6 enc Try.prog Try.f3 Rows.fnC2PaddingRow.domain false) (Rows.fnC2PaddingSpec.post enc Try.prog Try.f3 false true false false) := by
  refine returnsInHanded_of_change_sized (C := Try.checked) own started (by kernel_rfl) Try.func3
    (ChangeSpec.witness6 (enc := enc) (C := Try.checked) false ⟨#[], #[.int .u64 0, .int .u64 0, .int .u64 0], []⟩ 8 (by kernel_rfl) (by kernel_rfl) (by kernel_rfl) (by kernel_rfl)) ?_
  intro W base args ds gs before hval0 hW _ _ _
  have hval : ∀ (j : Nat) t v, Try.f3.params[j]? = some t → args[j]? = some v → Value.okWide Try.prog W .any base t v := hval0
  have hW' := hW
  obtain ⟨p, q, hA0, hV, rfl, _, _⟩ := hW
  have hA : DataW.TrodAll enc Try.prog W 0 (fun _ => true) true Try.f3.params.toList args.toList ds p := hA0
  rw [Try.params3] at hA hval
  obtain ⟨v0, vs0, d0, ds0, p0, q0, hargs, rfl, rfl, t0, r0⟩ := trodAll_cons hA
  obtain ⟨v1, vs1, d1, ds1, p1, q1, rfl, rfl, rfl, t1, r1⟩ := trodAll_cons r0
  obtain ⟨v2, vs2, d2, ds2, p2, q2, rfl, rfl, rfl, t2, r2⟩ := trodAll_cons r1
  obtain ⟨rfl, rfl, rfl⟩ := trodAll_nil r2
  obtain rfl : args = #[v0, v1, v2] := by cases args; simp_all
  obtain ⟨rfl, rfl⟩ := trodVars_none hV
  obtain ⟨z0, rfl, rfl, rfl, wf0⟩ := open_int Try.underlying22 (hval 0 22 v0 rfl rfl) t0
  obtain ⟨z1, rfl, rfl, rfl, wf1⟩ := open_int Try.underlying22 (hval 1 22 v1 rfl rfl) t1
  obtain ⟨z2, rfl, rfl, rfl, wf2⟩ := open_int Try.underlying22 (hval 2 22 v2 rfl rfl) t2
  have b0 := bounds_u64 wf0
  obtain ⟨a0, rfl⟩ := Int.eq_ofNat_of_zero_le b0.1
  have h0 : a0 < 18446744073709551616 := by omega
  have b1 := bounds_u64 wf1
  obtain ⟨a1, rfl⟩ := Int.eq_ofNat_of_zero_le b1.1
  have h1 : a1 < 18446744073709551616 := by omega
  have b2 := bounds_u64 wf2
  obtain ⟨a2, rfl⟩ := Int.eq_ofNat_of_zero_le b2.1
  have h2 : a2 < 18446744073709551616 := by omega
  clear hA0 hval0
  refine (c2Pad_walk a0 a1 a2 W h0 h1 h2).mono fun e W' ⟨he, bel⟩ => ?_
  subst he
  exact ⟨_, rfl, _, _, _, [], _, [], hW', trodAll_mk1 (shut_bool Try.underlying4 _), (trodAll_cons_mk (shut_int Try.underlying22 wf0) (trodAll_cons_mk (shut_int Try.underlying22 wf1) (trodAll_cons_mk (shut_int Try.underlying22 wf2) trodAll_mk0))), rfl, bel.frame _, fun h => by cases h⟩
theorem over : Rows.FnC2PaddingSaid :=
  OpenClaim.holds_of_wide 3 Try.f3 rfl rfl rfl rfl rfl rfl rfl ⟨rfl, rfl, rfl, rfl, rfl⟩ rfl rfl rfl rfl rfl (by kernel_rfl) Try.func3 (by kernel_rfl)
    (of_decide_eq_true (by kernel_rfl)) (by unfold Func.isWrapper; first | (rw [if_pos (by decide +kernel)]; kernel_rfl) | (rw [if_neg (by decide +kernel)]; exact ⟨rfl, rfl⟩))
    (fun os started H enc _ => lifted os started H enc)
end Go.Proofs.Ytpagaagghpopiaa.fnC2Padding
namespace Go.Proofs.Ytpagaagghpopiaa
theorem fnC2Padding_holds : Rows.FnC2PaddingSaid := fnC2Padding.over
end Go.Proofs.Ytpagaagghpopiaa
