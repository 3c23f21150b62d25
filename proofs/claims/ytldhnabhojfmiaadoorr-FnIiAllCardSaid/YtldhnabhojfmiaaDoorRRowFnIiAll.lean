/- The law laws.FnIiAll: for every input that can be read the call returns true, and the input reads as it did: where the listed package-level variables read as listed; the card ties that list to the program's text. -/
import Derived.Test.YtldhnabhojfmiaaDoorRRows
import Derived.Test.YtldhnabhojfmiaaDoorRIiA
import Derived.Test.YtldhnabhojfmiaaDoorRIiLaid
import Derived.Test.YtldhnabhojfmiaaDoorRCidArg
import Derived.Test.YtldhnabhojfmiaaDoorREntArg
import Derived.Test.YtldhnabhojfmiaaDoorRLaid
import Derived.Test.YtldhnabhojfmiaaDoorRCards
import Derived.Test.YtldhnabhojfmiaaDoorRTie
import Derived.SevenTiedAt
import Derived.ProofKit
import Derived.LaidMore
import Derived.OpenShut
import Derived.ShutString
import Derived.Stop.Joined
namespace Go.Proofs.YtldhnabhojfmiaaDoorR.fnIiAll
open Go.ChangeShapes Go.WideShapes Go.ChangeAt Go.WideMaps Go.WideElems Go.RowKit
open Go.ChangeMaps (open_string shut_string)
theorem own : ownKnob Tryd.prog.godebug = none := by kernel_rfl
/-- The heap that the program's own door leaves meets the condition. -/
theorem door_met (os : Os) (args : Array Value) : laidMetH Tryd.prog Rows.fnIiAllRow.laid ((World.doorLaid Tryd.prog 400 os).forCall (fun _ _ => 0) ⟨#[], args, []⟩).memory :=
  laidMetH_of_parts3 (fuel := 8) (laidMet_of_run' 8 (by kernel_rfl) (by kernel_rfl)) (by kernel_rfl) (by kernel_rfl)
set_option maxRecDepth 100000 in
theorem lifted (os : Os) (started : os.Started) (H : Type) (enc : TypeId × Value → H) :
    ReturnsInHanded {} Tryd.checked os 3 .any (fun w args => (Rows.fnIiAllSpec.pre enc Tryd.prog Tryd.f3 [] false w args ∧ laidMetH Tryd.prog Rows.fnIiAllRow.laid w) ∧ sizedMet enc Tryd.prog Tryd.f3 (OpenSpec.ofChange Rows.fnIiAllSpec) false w args)
      (Rows.fnIiAllSpec.post enc Tryd.prog Tryd.f3 false true false false) := by
  refine returnsInHanded_of_change_and (C := Tryd.checked) (X := fun w _ => laidMetH Tryd.prog Rows.fnIiAllRow.laid w) (fun _ _ _ hh h => h.of_heap hh) own started (by kernel_rfl) Tryd.func3
    (ChangeSpec.witness_shaped (enc := enc) (C := Tryd.checked) (os := os) (X := fun w _ => laidMetH Tryd.prog Rows.fnIiAllRow.laid w) false (World.doorLaid Tryd.prog 400 os) #[.slice none 0 0, .agg #[.int .u64 0, .int .u64 0, .int .u64 0, .string ⟨#[]⟩], .int .u8 0] 8 rfl (World.shaped_of_RefB (by kernel_rfl) (by kernel_rfl)) (by kernel_rfl) (by kernel_rfl) (by kernel_rfl) (door_met os _)) ?_
  intro W base args ds gs before hval0 hW _ _ HL _
  have hval : ∀ (j : Nat) t v, Tryd.f3.params[j]? = some t → args[j]? = some v → Value.okWide Tryd.prog W .any base t v := hval0
  have hW' := hW
  obtain ⟨p, q, hA0, hV, rfl, _, _⟩ := hW
  have hA : DataW.TrodAll enc Tryd.prog W 0 (fun _ => true) true Tryd.f3.params.toList args.toList ds p := hA0
  rw [Tryd.params3] at hA hval
  obtain ⟨v0, vs0, d0, ds0, p0, q0, hargs, rfl, rfl, t0, r0⟩ := trodAll_cons hA
  obtain ⟨v1, vs1, d1, ds1, p1, q1, rfl, rfl, rfl, t1, r1⟩ := trodAll_cons r0
  obtain ⟨v2, vs2, d2, ds2, p2, q2, rfl, rfl, rfl, t2, r2⟩ := trodAll_cons r1
  obtain ⟨rfl, rfl, rfl⟩ := trodAll_nil r2
  obtain rfl : args = #[v0, v1, v2] := by cases args; simp_all
  obtain ⟨rfl, rfl⟩ := trodVars_none hV
  obtain ⟨A0, n0, c0, es0, rfl, hr0, hwf0, sh0⟩ := open_ents (hval 0 22 v0 rfl rfl) t0
  obtain ⟨z1_0, z1_1, z1_2, s1, rfl, rfl, rfl, wf1_0, wf1_1, wf1_2, h1⟩ := open_cid Tryd.underlying25 (by kernel_rfl) (by kernel_rfl) Tryd.underlying23 Tryd.underlying9 rfl rfl rfl rfl (hval 1 25 v1 rfl rfl) t1
  obtain ⟨z2, rfl, rfl, rfl, wf2⟩ := open_int Tryd.underlying5 (hval 2 5 v2 rfl rfl) t2
  have b1_0 := bounds_u64 wf1_0
  obtain ⟨a1_0, rfl⟩ := Int.eq_ofNat_of_zero_le b1_0.1
  have h1_0 : a1_0 < 18446744073709551616 := by omega
  have b1_1 := bounds_u64 wf1_1
  obtain ⟨a1_1, rfl⟩ := Int.eq_ofNat_of_zero_le b1_1.1
  have h1_1 : a1_1 < 18446744073709551616 := by omega
  have b1_2 := bounds_u64 wf1_2
  obtain ⟨a1_2, rfl⟩ := Int.eq_ofNat_of_zero_le b1_2.1
  have h1_2 : a1_2 < 18446744073709551616 := by omega
  have h1' := h1
  unfold maxLen at h1'
  have b2 := bounds_u8 wf2
  obtain ⟨a2, rfl⟩ := Int.eq_ofNat_of_zero_le b2.1
  have h2 : a2 < 256 := by omega
  clear hA0 hval0
  refine (iiAll_walk A0 n0 c0 es0 a1_0 a1_1 a1_2 a2 s1 W hr0 (fun e he => (hwf0 e he).2) h2 (iiErrs_laid (l := Rows.fnIiAllRow.laid) (by kernel_rfl) HL (by simp [Rows.fnIiAllRow]) (by simp [Rows.fnIiAllRow]) (by simp [Rows.fnIiAllRow]) (by simp [Rows.fnIiAllRow]) (by simp [Rows.fnIiAllRow]))).mono fun e W' ⟨he, bel⟩ => ?_
  subst he
  exact ⟨_, rfl, _, _, _, [], _, [], hW', trodAll_mk1 (shut_bool Tryd.underlying4 _), (trodAll_cons_mk ((sh0 _ bel).choose_spec) (trodAll_cons_mk (shut_cid Tryd.underlying25 (by kernel_rfl) (by kernel_rfl) Tryd.underlying23 Tryd.underlying9 rfl rfl rfl rfl wf1_0 wf1_1 wf1_2 h1) (trodAll_cons_mk (shut_int Tryd.underlying5 wf2) trodAll_mk0))), rfl, bel.frame _, fun h => by cases h⟩
theorem over : Rows.FnIiAllSaid :=
  OpenClaim.holds_of_wide 3 Tryd.f3 rfl rfl rfl rfl rfl rfl rfl ⟨rfl, rfl, rfl, rfl, rfl⟩ rfl rfl rfl rfl rfl (by kernel_rfl) Tryd.func3 (by kernel_rfl)
    (of_decide_eq_true (by kernel_rfl)) (by unfold Func.isWrapper; first | (rw [if_pos (by decide +kernel)]; kernel_rfl) | (rw [if_neg (by decide +kernel)]; exact ⟨rfl, rfl⟩))
    (fun os started H enc _ => lifted os started H enc)
theorem carded : Rows.FnIiAllCardSaid :=
  Claim7.holds_tied_plain_at .later [] [.data, .data, .sentinel, .sentinel, .sentinel, .sentinel, .sentinel, .sentinel, .data, .sentinel] true (true, "39ca95e3aaac76817b8ca6f4d35e30eef91d7dec52f99c2fd729d5a3d0d2b083") true
    over (fun _ h => by cases h) (by kernel_rfl) (fun _ h => by cases h) fnIiAll_row_tie rfl ⟨rfl, rfl⟩ (by kernel_rfl) rfl
    (fun f fn hf hfn => by
      obtain rfl : f = 3 := Option.some.inj ((show Tryd.prog.funcNamed "pub-droshky/laws.FnIiAll" = some 3 by kernel_rfl).symm.trans hf) |>.symm
      obtain rfl : fn = Tryd.f3 := (Option.some.inj (Tryd.func3.symm.trans hfn)).symm
      exact ⟨by kernel_rfl, fun j t ht => by
        rw [Tryd.params3] at ht
        have hm : t ∈ [22, 25, 5] := by simpa using Array.mem_of_getElem? ht
        have hall : ([22, 25, 5].all fun u => !Tryd.prog.wantsStandIn u) = true := by kernel_rfl
        exact (show Tryd.prog.wantsStandIn t = false by simpa using List.all_eq_true.1 hall t hm)⟩)
    (by kernel_rfl)
end Go.Proofs.YtldhnabhojfmiaaDoorR.fnIiAll
namespace Go.Proofs.YtldhnabhojfmiaaDoorR
theorem fnIiAll_card : Rows.FnIiAllCardSaid := fnIiAll.carded
end Go.Proofs.YtldhnabhojfmiaaDoorR
