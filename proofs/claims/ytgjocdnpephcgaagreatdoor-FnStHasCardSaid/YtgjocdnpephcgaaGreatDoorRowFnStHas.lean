/- The law laws.FnStHas: for every input that can be read the call returns true, and the input reads as it did: where the listed package-level variables read as listed; the card ties that list to the program's text. -/
import Derived.Test.YtgjocdnpephcgaaGreatDoorRows
import Derived.Test.YtgjocdnpephcgaaGreatDoorStHas
import Derived.Test.YtgjocdnpephcgaaGreatDoorCdLaid
import Derived.Test.YtgjocdnpephcgaaGreatDoorCidArg
import Derived.Test.YtgjocdnpephcgaaGreatDoorEntArg
import Derived.Test.YtgjocdnpephcgaaGreatDoorOptArg
import Derived.Test.YtgjocdnpephcgaaGreatDoorLaid
import Derived.Test.YtgjocdnpephcgaaGreatDoorCards
import Derived.Test.YtgjocdnpephcgaaGreatDoorTie
import Derived.SevenTiedAt
import Derived.ProofKit
import Derived.LaidMore
import Derived.OpenShut
import Derived.ShutString
import Derived.Stop.Joined
namespace Go.Proofs.YtgjocdnpephcgaaGreatDoor.fnStHas
open Go.ChangeShapes Go.WideShapes Go.ChangeAt Go.WideMaps Go.WideElems Go.RowKit
open Go.ChangeMaps (open_string shut_string)
theorem own : ownKnob Tryz.prog.godebug = none := by kernel_rfl
/-- The heap that the program's own door leaves meets the condition. -/
theorem door_met (os : Os) (args : Array Value) : laidMetH Tryz.prog Rows.fnStHasRow.laid ((World.doorLaid Tryz.prog 400 os).forCall (fun _ _ => 0) ⟨#[], args, []⟩).memory :=
  laidMetH_of_parts3 (fuel := 8) (laidMet_of_run' 8 (by kernel_rfl) (by kernel_rfl)) (by kernel_rfl) (by kernel_rfl)
set_option maxRecDepth 100000 in
theorem lifted (os : Os) (started : os.Started) (H : Type) (enc : TypeId × Value → H) :
    ReturnsInHanded {} Tryz.checked os 3 .any (fun w args => (Rows.fnStHasSpec.pre enc Tryz.prog Tryz.f3 [] false w args ∧ laidMetH Tryz.prog Rows.fnStHasRow.laid w) ∧ sizedMet enc Tryz.prog Tryz.f3 (OpenSpec.ofChange Rows.fnStHasSpec) false w args)
      (Rows.fnStHasSpec.post enc Tryz.prog Tryz.f3 false true false false) := by
  refine returnsInHanded_of_change_and (C := Tryz.checked) (X := fun w _ => laidMetH Tryz.prog Rows.fnStHasRow.laid w) (fun _ _ _ hh h => h.of_heap hh) own started (by kernel_rfl) Tryz.func3
    (ChangeSpec.witness_shaped (enc := enc) (C := Tryz.checked) (os := os) (X := fun w _ => laidMetH Tryz.prog Rows.fnStHasRow.laid w) false (World.doorLaid Tryz.prog 400 os) #[.slice none 0 0, .agg #[.int .u64 0, .int .u64 0, .int .u64 0, .string ⟨#[]⟩], .agg #[.bool false, .bool false, .bool false, .bool false, .bool false, .bool false, .int .u64 0, .int .u64 0, .int .u64 0, .int .u64 0, .int .u64 0, .int .u64 0]] 8 rfl (World.shaped_of_RefB (by kernel_rfl) (by kernel_rfl)) (by kernel_rfl) (by kernel_rfl) (by kernel_rfl) (door_met os _)) ?_
  intro W base args ds gs before hval0 hW _ _ HL _
  have hval : ∀ (j : Nat) t v, Tryz.f3.params[j]? = some t → args[j]? = some v → Value.okWide Tryz.prog W .any base t v := hval0
  have hW' := hW
  obtain ⟨p, q, hA0, hV, rfl, _, _⟩ := hW
  have hA : DataW.TrodAll enc Tryz.prog W 0 (fun _ => true) true Tryz.f3.params.toList args.toList ds p := hA0
  rw [Tryz.params3] at hA hval
  obtain ⟨v0, vs0, d0, ds0, p0, q0, hargs, rfl, rfl, t0, r0⟩ := trodAll_cons hA
  obtain ⟨v1, vs1, d1, ds1, p1, q1, rfl, rfl, rfl, t1, r1⟩ := trodAll_cons r0
  obtain ⟨v2, vs2, d2, ds2, p2, q2, rfl, rfl, rfl, t2, r2⟩ := trodAll_cons r1
  obtain ⟨rfl, rfl, rfl⟩ := trodAll_nil r2
  obtain rfl : args = #[v0, v1, v2] := by cases args; simp_all
  obtain ⟨rfl, rfl⟩ := trodVars_none hV
  obtain ⟨A0, n0, c0, es0, rfl, hr0, hwf0, sh0⟩ := open_ents (hval 0 22 v0 rfl rfl) t0
  obtain ⟨z1_0, z1_1, z1_2, s1, rfl, rfl, rfl, wf1_0, wf1_1, wf1_2, h1⟩ := open_cid Tryz.underlying25 (by kernel_rfl) (by kernel_rfl) Tryz.underlying23 Tryz.underlying9 rfl rfl rfl rfl (hval 1 25 v1 rfl rfl) t1
  obtain ⟨o2, rfl, rfl, rfl, hwf2⟩ := open_opts (hval 2 27 v2 rfl rfl) t2
  have b1_0 := bounds_u64 wf1_0
  obtain ⟨a1_0, rfl⟩ := Int.eq_ofNat_of_zero_le b1_0.1
  have h1_0 : a1_0 < 18446744073709551616 := by omega
  have b1_1 := bounds_u64 wf1_1
  obtain ⟨a1_1, rfl⟩ := Int.eq_ofNat_of_zero_le b1_1.1
  have h1_1 : a1_1 < 18446744073709551616 := by omega
  have b1_2 := bounds_u64 wf1_2
  obtain ⟨a1_2, rfl⟩ := Int.eq_ofNat_of_zero_le b1_2.1
  have h1_2 : a1_2 < 18446744073709551616 := by omega
  have h1' := h1
  unfold maxLen at h1'
  clear hA0 hval0
  refine (fnStHas_walk A0 n0 c0 es0 a1_0 a1_1 a1_2 s1 o2 W hr0 h1_1 h1_2 (mhErrs_laid (l := Rows.fnStHasRow.laid) (by kernel_rfl) HL (by simp [Rows.fnStHasRow]) (by simp [Rows.fnStHasRow]) (by simp [Rows.fnStHasRow]) (by simp [Rows.fnStHasRow]))).mono fun e W' ⟨he, bel⟩ => ?_
  subst he
  exact ⟨_, rfl, _, _, _, [], _, [], hW', trodAll_mk1 (shut_bool Tryz.underlying4 _), (trodAll_cons_mk ((sh0 _ bel).choose_spec) (trodAll_cons_mk (shut_cid Tryz.underlying25 (by kernel_rfl) (by kernel_rfl) Tryz.underlying23 Tryz.underlying9 rfl rfl rfl rfl wf1_0 wf1_1 wf1_2 h1) (trodAll_cons_mk (shut_opts hwf2) trodAll_mk0))), rfl, bel.frame _, fun h => by cases h⟩
theorem over : Rows.FnStHasSaid :=
  OpenClaim.holds_of_wide 3 Tryz.f3 rfl rfl rfl rfl rfl rfl rfl ⟨rfl, rfl, rfl, rfl, rfl⟩ rfl rfl rfl rfl rfl (by kernel_rfl) Tryz.func3 (by kernel_rfl)
    (of_decide_eq_true (by kernel_rfl)) (by unfold Func.isWrapper; first | (rw [if_pos (by decide +kernel)]; kernel_rfl) | (rw [if_neg (by decide +kernel)]; exact ⟨rfl, rfl⟩))
    (fun os started H enc _ => lifted os started H enc)
theorem carded : Rows.FnStHasCardSaid :=
  Claim7.holds_tied_plain_at .later [] [.data, .data, .sentinel, .sentinel, .sentinel, .sentinel, .sentinel, .sentinel, .data] true (true, "f2433186f26a79a92108ba977cb61416d445b41b6a729436ed76d36680ae8fa8") true
    over (fun _ h => by cases h) (by kernel_rfl) (fun _ h => by cases h) fnStHas_row_tie rfl ⟨rfl, rfl⟩ (by kernel_rfl) rfl
    (fun f fn hf hfn => by
      obtain rfl : f = 3 := Option.some.inj ((show Tryz.prog.funcNamed "pub-droshky/laws.FnStHas" = some 3 by kernel_rfl).symm.trans hf) |>.symm
      obtain rfl : fn = Tryz.f3 := (Option.some.inj (Tryz.func3.symm.trans hfn)).symm
      exact ⟨by kernel_rfl, fun j t ht => by
        rw [Tryz.params3] at ht
        have hm : t ∈ [22, 25, 27] := by simpa using Array.mem_of_getElem? ht
        have hall : ([22, 25, 27].all fun u => !Tryz.prog.wantsStandIn u) = true := by kernel_rfl
        exact (show Tryz.prog.wantsStandIn t = false by simpa using List.all_eq_true.1 hall t hm)⟩)
    (by kernel_rfl)
end Go.Proofs.YtgjocdnpephcgaaGreatDoor.fnStHas
namespace Go.Proofs.YtgjocdnpephcgaaGreatDoor
theorem fnStHas_card : Rows.FnStHasCardSaid := fnStHas.carded
end Go.Proofs.YtgjocdnpephcgaaGreatDoor
