/- The law laws.FnC2Read: for every input that can be read the call returns true, and the input reads as it did: where the listed package-level variables read as listed; the card ties that list to the program's text. -/
import Derived.Test.YtpagaagghpopiaaDoorRows
import Derived.Test.YtpagaagghpopiaaDoorC2Law
import Derived.Test.YtpagaagghpopiaaDoorFive
import Derived.Test.YtpagaagghpopiaaDoorLaid
import Derived.Test.YtpagaagghpopiaaDoorCards
import Derived.Test.YtpagaagghpopiaaDoorTie
import Derived.SevenTiedAt
import Derived.ProofKit
import Derived.LaidMore
import Derived.OpenShut
import Derived.ShutString
import Derived.Stop.Joined
namespace Go.Proofs.YtpagaagghpopiaaDoor.fnC2Read
open Go.ChangeShapes Go.WideShapes Go.ChangeAt Go.WideMaps Go.WideElems Go.RowKit
open Go.ChangeMaps (open_string shut_string)
theorem own : ownKnob Tryd.prog.godebug = none := by kernel_rfl
/-- The heap that the program's own door leaves meets the condition. -/
theorem door_met (os : Os) (args : Array Value) : laidMetH Tryd.prog Rows.fnC2ReadRow.laid ((World.doorLaid Tryd.prog 400 os).forCall (fun _ _ => 0) ⟨#[], args, []⟩).memory :=
  laidMetH_of_parts3 (fuel := 8) (laidMet_of_run' 8 (by kernel_rfl) (by kernel_rfl)) (by kernel_rfl) (by kernel_rfl)
set_option maxRecDepth 100000 in
theorem lifted (os : Os) (started : os.Started) (H : Type) (enc : TypeId × Value → H) :
    ReturnsInHanded {} Tryd.checked os 3 .any (fun w args => (Rows.fnC2ReadSpec.pre enc Tryd.prog Tryd.f3 [] false w args ∧ laidMetH Tryd.prog Rows.fnC2ReadRow.laid w) ∧ sizedMet enc Tryd.prog Tryd.f3 (OpenSpec.ofChange Rows.fnC2ReadSpec) false w args)
      (Rows.fnC2ReadSpec.post enc Tryd.prog Tryd.f3 false true false false) := by
  refine returnsInHanded_of_change_and (C := Tryd.checked) (X := fun w _ => laidMetH Tryd.prog Rows.fnC2ReadRow.laid w) (fun _ _ _ hh h => h.of_heap hh) own started (by kernel_rfl) Tryd.func3
    (ChangeSpec.witness_shaped (enc := enc) (C := Tryd.checked) (os := os) (X := fun w _ => laidMetH Tryd.prog Rows.fnC2ReadRow.laid w) false (World.doorLaid Tryd.prog 400 os) #[.agg #[.int .u64 0, .int .u64 0, .int .u64 0, .int .u64 0, .int .u64 0], .string ⟨#[]⟩] 8 rfl (World.shaped_of_RefB (by kernel_rfl) (by kernel_rfl)) (by kernel_rfl) (by kernel_rfl) (by kernel_rfl) (door_met os _)) ?_
  intro W base args ds gs before hval0 hW _ _ HL _
  have hval : ∀ (j : Nat) t v, Tryd.f3.params[j]? = some t → args[j]? = some v → Value.okWide Tryd.prog W .any base t v := hval0
  have hW' := hW
  obtain ⟨p, q, hA0, hV, rfl, _, _⟩ := hW
  have hA : DataW.TrodAll enc Tryd.prog W 0 (fun _ => true) true Tryd.f3.params.toList args.toList ds p := hA0
  rw [Tryd.params3] at hA hval
  obtain ⟨v0, vs0, d0, ds0, p0, q0, hargs, rfl, rfl, t0, r0⟩ := trodAll_cons hA
  obtain ⟨v1, vs1, d1, ds1, p1, q1, rfl, rfl, rfl, t1, r1⟩ := trodAll_cons r0
  obtain ⟨rfl, rfl, rfl⟩ := trodAll_nil r1
  obtain rfl : args = #[v0, v1] := by cases args; simp_all
  obtain ⟨rfl, rfl⟩ := trodVars_none hV
  obtain ⟨z0_0, z0_1, z0_2, z0_3, z0_4, rfl, rfl, rfl, wf0_0, wf0_1, wf0_2, wf0_3, wf0_4⟩ := open_five Tryd.underlying24 (by kernel_rfl) (by kernel_rfl) Tryd.underlying22 rfl rfl rfl rfl rfl (hval 0 24 v0 rfl rfl) t0
  obtain ⟨s1, rfl, rfl, rfl, h1⟩ := open_string Tryd.underlying9 (hval 1 9 v1 rfl rfl) t1
  have b0_0 := bounds_u64 wf0_0
  obtain ⟨a0_0, rfl⟩ := Int.eq_ofNat_of_zero_le b0_0.1
  have h0_0 : a0_0 < 18446744073709551616 := by omega
  have b0_1 := bounds_u64 wf0_1
  obtain ⟨a0_1, rfl⟩ := Int.eq_ofNat_of_zero_le b0_1.1
  have h0_1 : a0_1 < 18446744073709551616 := by omega
  have b0_2 := bounds_u64 wf0_2
  obtain ⟨a0_2, rfl⟩ := Int.eq_ofNat_of_zero_le b0_2.1
  have h0_2 : a0_2 < 18446744073709551616 := by omega
  have b0_3 := bounds_u64 wf0_3
  obtain ⟨a0_3, rfl⟩ := Int.eq_ofNat_of_zero_le b0_3.1
  have h0_3 : a0_3 < 18446744073709551616 := by omega
  have b0_4 := bounds_u64 wf0_4
  obtain ⟨a0_4, rfl⟩ := Int.eq_ofNat_of_zero_le b0_4.1
  have h0_4 : a0_4 < 18446744073709551616 := by omega
  have h1' := h1
  unfold maxLen at h1'
  clear hA0 hval0
  refine (c2Read_walk a0_0 a0_1 a0_2 a0_3 a0_4 s1 W h0_0 h0_1 h0_2 h0_3 h0_4 h1').mono fun e W' ⟨he, bel⟩ => ?_
  subst he
  exact ⟨_, rfl, _, _, _, [], _, [], hW', trodAll_mk1 (shut_bool Tryd.underlying4 _), (trodAll_cons_mk (shut_five Tryd.underlying24 (by kernel_rfl) (by kernel_rfl) Tryd.underlying22 rfl rfl rfl rfl rfl wf0_0 wf0_1 wf0_2 wf0_3 wf0_4) (trodAll_cons_mk (shut_string Tryd.underlying9 h1) trodAll_mk0)), rfl, bel.frame _, fun h => by cases h⟩
theorem over : Rows.FnC2ReadSaid :=
  OpenClaim.holds_of_wide 3 Tryd.f3 rfl rfl rfl rfl rfl rfl rfl ⟨rfl, rfl, rfl, rfl, rfl⟩ rfl rfl rfl rfl rfl (by kernel_rfl) Tryd.func3 (by kernel_rfl)
    (of_decide_eq_true (by kernel_rfl)) (by unfold Func.isWrapper; first | (rw [if_pos (by decide +kernel)]; kernel_rfl) | (rw [if_neg (by decide +kernel)]; exact ⟨rfl, rfl⟩))
    (fun os started H enc _ => lifted os started H enc)
theorem carded : Rows.FnC2ReadCardSaid :=
  Claim7.holds_tied_plain_at .later [] [.sentinel, .sentinel, .sentinel] true (true, "9f5a5c9d51562ba7aa655387a10aac3334ee0c21cf39c542b9bb712cae4def3a") true
    over (fun _ h => by cases h) (by kernel_rfl) (fun _ h => by cases h) fnC2Read_row_tie rfl ⟨rfl, rfl⟩ (by kernel_rfl) rfl
    (fun f fn hf hfn => by
      obtain rfl : f = 3 := Option.some.inj ((show Tryd.prog.funcNamed "pub-droshky/laws.FnC2Read" = some 3 by kernel_rfl).symm.trans hf) |>.symm
      obtain rfl : fn = Tryd.f3 := (Option.some.inj (Tryd.func3.symm.trans hfn)).symm
      exact ⟨by kernel_rfl, fun j t ht => by
        rw [Tryd.params3] at ht
        have hm : t ∈ [24, 9] := by simpa using Array.mem_of_getElem? ht
        have hall : ([24, 9].all fun u => !Tryd.prog.wantsStandIn u) = true := by kernel_rfl
        exact (show Tryd.prog.wantsStandIn t = false by simpa using List.all_eq_true.1 hall t hm)⟩)
    (by kernel_rfl)
end Go.Proofs.YtpagaagghpopiaaDoor.fnC2Read
namespace Go.Proofs.YtpagaagghpopiaaDoor
theorem fnC2Read_card : Rows.FnC2ReadCardSaid := fnC2Read.carded
end Go.Proofs.YtpagaagghpopiaaDoor
