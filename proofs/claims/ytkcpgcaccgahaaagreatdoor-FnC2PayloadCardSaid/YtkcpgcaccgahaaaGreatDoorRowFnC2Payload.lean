/- The law laws.FnC2Payload: for every input that can be read the call returns true, and the input reads as it did: where the listed package-level variables read as listed; the card ties that list to the program's text. -/
import Derived.Test.YtkcpgcaccgahaaaGreatDoorRows
import Derived.Test.YtkcpgcaccgahaaaGreatDoorC2Plain
import Derived.Test.YtkcpgcaccgahaaaGreatDoorLaidA
import Derived.Test.YtkcpgcaccgahaaaGreatDoorFive
import Derived.Test.YtkcpgcaccgahaaaGreatDoorLaid
import Derived.Test.YtkcpgcaccgahaaaGreatDoorCards
import Derived.Test.YtkcpgcaccgahaaaGreatDoorTie
import Derived.SevenTiedAt
import Derived.ProofKit
import Derived.LaidMore
import Derived.OpenShut
import Derived.ShutString
import Derived.Stop.Joined
namespace Go.Proofs.YtkcpgcaccgahaaaGreatDoor.fnC2Payload
open Go.ChangeShapes Go.WideShapes Go.ChangeAt Go.WideMaps Go.WideElems Go.RowKit
open Go.ChangeMaps (open_string shut_string)
theorem own : ownKnob Tryz.prog.godebug = none := by kernel_rfl
/-- The heap that the program's own door leaves meets the condition. -/
theorem door_met (os : Os) (args : Array Value) : laidMetH Tryz.prog Rows.fnC2PayloadRow.laid ((World.doorLaid Tryz.prog 400 os).forCall (fun _ _ => 0) ⟨#[], args, []⟩).memory :=
  laidMetH_of_parts3 (fuel := 8) (laidMet_of_run' 8 (by kernel_rfl) (by kernel_rfl)) (by kernel_rfl) (by kernel_rfl)
set_option maxRecDepth 100000 in
theorem lifted (os : Os) (started : os.Started) (H : Type) (enc : TypeId × Value → H) :
    ReturnsInHanded {} Tryz.checked os 3 .any (fun w args => (Rows.fnC2PayloadSpec.pre enc Tryz.prog Tryz.f3 [] false w args ∧ laidMetH Tryz.prog Rows.fnC2PayloadRow.laid w) ∧ sizedMet enc Tryz.prog Tryz.f3 (OpenSpec.ofChange Rows.fnC2PayloadSpec) false w args)
      (Rows.fnC2PayloadSpec.post enc Tryz.prog Tryz.f3 false true false false) := by
  refine returnsInHanded_of_change_and (C := Tryz.checked) (X := fun w _ => laidMetH Tryz.prog Rows.fnC2PayloadRow.laid w) (fun _ _ _ hh h => h.of_heap hh) own started (by kernel_rfl) Tryz.func3
    (ChangeSpec.witness_shaped (enc := enc) (C := Tryz.checked) (os := os) (X := fun w _ => laidMetH Tryz.prog Rows.fnC2PayloadRow.laid w) false (World.doorLaid Tryz.prog 400 os) #[.agg #[.int .u64 0, .int .u64 0, .int .u64 0, .int .u64 0, .int .u64 0], .string ⟨#[]⟩] 8 rfl (World.shaped_of_RefB (by kernel_rfl) (by kernel_rfl)) (by kernel_rfl) (by kernel_rfl) (by kernel_rfl) (door_met os _)) ?_
  intro W base args ds gs before hval0 hW _ _ HL _
  have hval : ∀ (j : Nat) t v, Tryz.f3.params[j]? = some t → args[j]? = some v → Value.okWide Tryz.prog W .any base t v := hval0
  have hW' := hW
  obtain ⟨p, q, hA0, hV, rfl, _, _⟩ := hW
  have hA : DataW.TrodAll enc Tryz.prog W 0 (fun _ => true) true Tryz.f3.params.toList args.toList ds p := hA0
  rw [Tryz.params3] at hA hval
  obtain ⟨v0, vs0, d0, ds0, p0, q0, hargs, rfl, rfl, t0, r0⟩ := trodAll_cons hA
  obtain ⟨v1, vs1, d1, ds1, p1, q1, rfl, rfl, rfl, t1, r1⟩ := trodAll_cons r0
  obtain ⟨rfl, rfl, rfl⟩ := trodAll_nil r1
  obtain rfl : args = #[v0, v1] := by cases args; simp_all
  obtain ⟨rfl, rfl⟩ := trodVars_none hV
  obtain ⟨z0_0, z0_1, z0_2, z0_3, z0_4, rfl, rfl, rfl, wf0_0, wf0_1, wf0_2, wf0_3, wf0_4⟩ := open_five Tryz.underlying24 (by kernel_rfl) (by kernel_rfl) Tryz.underlying22 rfl rfl rfl rfl rfl (hval 0 24 v0 rfl rfl) t0
  obtain ⟨s1, rfl, rfl, rfl, h1⟩ := open_string Tryz.underlying9 (hval 1 9 v1 rfl rfl) t1
  have b0_0 := bounds_u64 wf0_0
  obtain ⟨a0_0, rfl⟩ := Int.eq_ofNat_of_zero_le b0_0.1
  have h0_0 : a0_0 < 18446744073709551616 := by omega
  have b0_1 := bounds_u64 wf0_1
  obtain ⟨a0_1, rfl⟩ := Int.eq_ofNat_of_zero_le b0_1.1
  have h0_1 : a0_1 < 18446744073709551616 := by omega
  have b0_2 := bounds_u64 wf0_2
  obtain ⟨a0_2, rfl⟩ := Int.eq_ofNat_of_zero_le b0_2.1
  have h0_2 : a0_2 < 18446744073709551616 := by omega
  have b0_3 := bounds_u64 wf0_3
  obtain ⟨a0_3, rfl⟩ := Int.eq_ofNat_of_zero_le b0_3.1
  have h0_3 : a0_3 < 18446744073709551616 := by omega
  have b0_4 := bounds_u64 wf0_4
  obtain ⟨a0_4, rfl⟩ := Int.eq_ofNat_of_zero_le b0_4.1
  have h0_4 : a0_4 < 18446744073709551616 := by omega
  have h1' := h1
  unfold maxLen at h1'
  clear hA0 hval0
  refine (c2Payload_walk a0_0 a0_1 a0_2 a0_3 a0_4 s1 W h0_0 h0_1 h0_2 h0_3 h0_4 h1' (plErrs_laid (l := Rows.fnC2PayloadRow.laid) (by kernel_rfl) HL (by simp [Rows.fnC2PayloadRow]) (by simp [Rows.fnC2PayloadRow]) (by simp [Rows.fnC2PayloadRow]) (by simp [Rows.fnC2PayloadRow]) (by simp [Rows.fnC2PayloadRow]) (by simp [Rows.fnC2PayloadRow]) (by simp [Rows.fnC2PayloadRow]) (by simp [Rows.fnC2PayloadRow]))).mono fun e W' ⟨he, bel⟩ => ?_
  subst he
  exact ⟨_, rfl, _, _, _, [], _, [], hW', trodAll_mk1 (shut_bool Tryz.underlying4 _), (trodAll_cons_mk (shut_five Tryz.underlying24 (by kernel_rfl) (by kernel_rfl) Tryz.underlying22 rfl rfl rfl rfl rfl wf0_0 wf0_1 wf0_2 wf0_3 wf0_4) (trodAll_cons_mk (shut_string Tryz.underlying9 h1) trodAll_mk0)), rfl, bel.frame _, fun h => by cases h⟩
theorem over : Rows.FnC2PayloadSaid :=
  OpenClaim.holds_of_wide 3 Tryz.f3 rfl rfl rfl rfl rfl rfl rfl ⟨rfl, rfl, rfl, rfl, rfl⟩ rfl rfl rfl rfl rfl (by kernel_rfl) Tryz.func3 (by kernel_rfl)
    (of_decide_eq_true (by kernel_rfl)) (by unfold Func.isWrapper; first | (rw [if_pos (by decide +kernel)]; kernel_rfl) | (rw [if_neg (by decide +kernel)]; exact ⟨rfl, rfl⟩))
    (fun os started H enc _ => lifted os started H enc)
theorem carded : Rows.FnC2PayloadCardSaid :=
  Claim7.holds_tied_plain_at .later [] [.sentinel, .sentinel, .sentinel, .sentinel, .sentinel, .sentinel, .sentinel, .sentinel, .sentinel, .sentinel, .sentinel, .sentinel, .sentinel, .sentinel, .sentinel, .data, .sentinel, .sentinel, .sentinel] true (true, "9313f0158db53fcd63ed367dba649eea559dc1752caacb16a5a8cbbf85dacfc8") true
    over (fun _ h => by cases h) (by kernel_rfl) (fun _ h => by cases h) fnC2Payload_row_tie rfl ⟨rfl, rfl⟩ (by kernel_rfl) rfl
    (fun f fn hf hfn => by
      obtain rfl : f = 3 := Option.some.inj ((show Tryz.prog.funcNamed "pub-droshky/laws.FnC2Payload" = some 3 by kernel_rfl).symm.trans hf) |>.symm
      obtain rfl : fn = Tryz.f3 := (Option.some.inj (Tryz.func3.symm.trans hfn)).symm
      exact ⟨by kernel_rfl, fun j t ht => by
        rw [Tryz.params3] at ht
        have hm : t ∈ [24, 9] := by simpa using Array.mem_of_getElem? ht
        have hall : ([24, 9].all fun u => !Tryz.prog.wantsStandIn u) = true := by kernel_rfl
        exact (show Tryz.prog.wantsStandIn t = false by simpa using List.all_eq_true.1 hall t hm)⟩)
    (by kernel_rfl)
end Go.Proofs.YtkcpgcaccgahaaaGreatDoor.fnC2Payload
namespace Go.Proofs.YtkcpgcaccgahaaaGreatDoor
theorem fnC2Payload_card : Rows.FnC2PayloadCardSaid := fnC2Payload.carded
end Go.Proofs.YtkcpgcaccgahaaaGreatDoor
