/- The law laws.FnCdCut: for every input that can be read the call returns true, and the input reads as it did: where the listed package-level variables read as listed; the card ties that list to the program's text. -/
import Derived.Test.YtldhnabhojfmiaaDoorRRows
import Derived.Test.YtldhnabhojfmiaaDoorRCdCut
import Derived.Test.YtldhnabhojfmiaaDoorRCaLaid
import Derived.Test.YtldhnabhojfmiaaDoorRCidArg
import Derived.Test.YtldhnabhojfmiaaDoorRLaid
import Derived.Test.YtldhnabhojfmiaaDoorRCards
import Derived.Test.YtldhnabhojfmiaaDoorRTie
import Derived.SevenTiedAt
import Derived.ProofKit
import Derived.LaidMore
import Derived.OpenShut
import Derived.ShutString
import Derived.Stop.Joined
namespace Go.Proofs.YtldhnabhojfmiaaDoorR.fnCdCut
open Go.ChangeShapes Go.WideShapes Go.ChangeAt Go.WideMaps Go.WideElems Go.RowKit
open Go.ChangeMaps (open_string shut_string)
theorem own : ownKnob Tryd.prog.godebug = none := by kernel_rfl
/-- The heap that the program's own door leaves meets the condition. -/
theorem door_met (os : Os) (args : Array Value) : laidMetH Tryd.prog Rows.fnCdCutRow.laid ((World.doorLaid Tryd.prog 400 os).forCall (fun _ _ => 0) ⟨#[], args, []⟩).memory :=
  laidMetH_of_parts3 (fuel := 8) (laidMet_of_run' 8 (by kernel_rfl) (by kernel_rfl)) (by kernel_rfl) (by kernel_rfl)
set_option maxRecDepth 100000 in
theorem lifted (os : Os) (started : os.Started) (H : Type) (enc : TypeId × Value → H) :
    ReturnsInHanded {} Tryd.checked os 6 .any (fun w args => (Rows.fnCdCutSpec.pre enc Tryd.prog Tryd.f6 [] false w args ∧ laidMetH Tryd.prog Rows.fnCdCutRow.laid w) ∧ sizedMet enc Tryd.prog Tryd.f6 (OpenSpec.ofChange Rows.fnCdCutSpec) false w args)
      (Rows.fnCdCutSpec.post enc Tryd.prog Tryd.f6 false true false false) := by
  refine returnsInHanded_of_change_and (C := Tryd.checked) (X := fun w _ => laidMetH Tryd.prog Rows.fnCdCutRow.laid w) (fun _ _ _ hh h => h.of_heap hh) own started (by kernel_rfl) Tryd.func6
    (ChangeSpec.witness_shaped (enc := enc) (C := Tryd.checked) (os := os) (X := fun w _ => laidMetH Tryd.prog Rows.fnCdCutRow.laid w) false (World.doorLaid Tryd.prog 400 os) #[.agg #[.int .u64 0, .int .u64 0, .int .u64 0, .string ⟨#[]⟩], .int .u16 0] 8 rfl (World.shaped_of_RefB (by kernel_rfl) (by kernel_rfl)) (by kernel_rfl) (by kernel_rfl) (by kernel_rfl) (door_met os _)) ?_
  intro W base args ds gs before hval0 hW _ _ HL _
  have hval : ∀ (j : Nat) t v, Tryd.f6.params[j]? = some t → args[j]? = some v → Value.okWide Tryd.prog W .any base t v := hval0
  have hW' := hW
  obtain ⟨p, q, hA0, hV, rfl, _, _⟩ := hW
  have hA : DataW.TrodAll enc Tryd.prog W 0 (fun _ => true) true Tryd.f6.params.toList args.toList ds p := hA0
  rw [Tryd.params6] at hA hval
  obtain ⟨v0, vs0, d0, ds0, p0, q0, hargs, rfl, rfl, t0, r0⟩ := trodAll_cons hA
  obtain ⟨v1, vs1, d1, ds1, p1, q1, rfl, rfl, rfl, t1, r1⟩ := trodAll_cons r0
  obtain ⟨rfl, rfl, rfl⟩ := trodAll_nil r1
  obtain rfl : args = #[v0, v1] := by cases args; simp_all
  obtain ⟨rfl, rfl⟩ := trodVars_none hV
  obtain ⟨z0_0, z0_1, z0_2, s0, rfl, rfl, rfl, wf0_0, wf0_1, wf0_2, h0⟩ := open_cid Tryd.underlying25 (by kernel_rfl) (by kernel_rfl) Tryd.underlying23 Tryd.underlying9 rfl rfl rfl rfl (hval 0 25 v0 rfl rfl) t0
  obtain ⟨z1, rfl, rfl, rfl, wf1⟩ := open_int Tryd.underlying47 (hval 1 47 v1 rfl rfl) t1
  have b0_0 := bounds_u64 wf0_0
  obtain ⟨a0_0, rfl⟩ := Int.eq_ofNat_of_zero_le b0_0.1
  have h0_0 : a0_0 < 18446744073709551616 := by omega
  have b0_1 := bounds_u64 wf0_1
  obtain ⟨a0_1, rfl⟩ := Int.eq_ofNat_of_zero_le b0_1.1
  have h0_1 : a0_1 < 18446744073709551616 := by omega
  have b0_2 := bounds_u64 wf0_2
  obtain ⟨a0_2, rfl⟩ := Int.eq_ofNat_of_zero_le b0_2.1
  have h0_2 : a0_2 < 18446744073709551616 := by omega
  have h0' := h0
  unfold maxLen at h0'
  have b1 := bounds_u16 wf1
  obtain ⟨a1, rfl⟩ := Int.eq_ofNat_of_zero_le b1.1
  have h1 : a1 < 65536 := by omega
  clear hA0 hval0
  refine (cdCut_walk a0_0 a0_1 a0_2 a1 s0 W h1 h0' (caErrs_laid (l := Rows.fnCdCutRow.laid) (by kernel_rfl) HL (by simp [Rows.fnCdCutRow]) (by simp [Rows.fnCdCutRow]) (by simp [Rows.fnCdCutRow]) (by simp [Rows.fnCdCutRow]) (by simp [Rows.fnCdCutRow]) (by simp [Rows.fnCdCutRow]) (by simp [Rows.fnCdCutRow]))).mono fun e W' ⟨he, bel⟩ => ?_
  subst he
  exact ⟨_, rfl, _, _, _, [], _, [], hW', trodAll_mk1 (shut_bool Tryd.underlying4 _), (trodAll_cons_mk (shut_cid Tryd.underlying25 (by kernel_rfl) (by kernel_rfl) Tryd.underlying23 Tryd.underlying9 rfl rfl rfl rfl wf0_0 wf0_1 wf0_2 h0) (trodAll_cons_mk (shut_int Tryd.underlying47 wf1) trodAll_mk0)), rfl, bel.frame _, fun h => by cases h⟩
theorem over : Rows.FnCdCutSaid :=
  OpenClaim.holds_of_wide 6 Tryd.f6 rfl rfl rfl rfl rfl rfl rfl ⟨rfl, rfl, rfl, rfl, rfl⟩ rfl rfl rfl rfl rfl (by kernel_rfl) Tryd.func6 (by kernel_rfl)
    (of_decide_eq_true (by kernel_rfl)) (by unfold Func.isWrapper; first | (rw [if_pos (by decide +kernel)]; kernel_rfl) | (rw [if_neg (by decide +kernel)]; exact ⟨rfl, rfl⟩))
    (fun os started H enc _ => lifted os started H enc)
theorem carded : Rows.FnCdCutCardSaid :=
  Claim7.holds_tied_plain_at .later [] [.sentinel, .sentinel, .sentinel, .sentinel, .sentinel, .sentinel, .sentinel, .sentinel, .sentinel, .data] true (true, "39ca95e3aaac76817b8ca6f4d35e30eef91d7dec52f99c2fd729d5a3d0d2b083") true
    over (fun _ h => by cases h) (by kernel_rfl) (fun _ h => by cases h) fnCdCut_row_tie rfl ⟨rfl, rfl⟩ (by kernel_rfl) rfl
    (fun f fn hf hfn => by
      obtain rfl : f = 6 := Option.some.inj ((show Tryd.prog.funcNamed "pub-droshky/laws.FnCdCut" = some 6 by kernel_rfl).symm.trans hf) |>.symm
      obtain rfl : fn = Tryd.f6 := (Option.some.inj (Tryd.func6.symm.trans hfn)).symm
      exact ⟨by kernel_rfl, fun j t ht => by
        rw [Tryd.params6] at ht
        have hm : t ∈ [25, 47] := by simpa using Array.mem_of_getElem? ht
        have hall : ([25, 47].all fun u => !Tryd.prog.wantsStandIn u) = true := by kernel_rfl
        exact (show Tryd.prog.wantsStandIn t = false by simpa using List.all_eq_true.1 hall t hm)⟩)
    (by kernel_rfl)
end Go.Proofs.YtldhnabhojfmiaaDoorR.fnCdCut
namespace Go.Proofs.YtldhnabhojfmiaaDoorR
theorem fnCdCut_card : Rows.FnCdCutCardSaid := fnCdCut.carded
end Go.Proofs.YtldhnabhojfmiaaDoorR
