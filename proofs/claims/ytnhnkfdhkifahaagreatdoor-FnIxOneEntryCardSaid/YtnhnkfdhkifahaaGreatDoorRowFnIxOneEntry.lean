/- The law laws.FnIxOneEntry: for every input that can be read the call returns true, and the input reads as it did: where the listed package-level variables read as listed; the card ties that list to the program's text. -/
import Derived.Test.YtnhnkfdhkifahaaGreatDoorRows
import Derived.Test.YtnhnkfdhkifahaaGreatDoorIxLaw
import Derived.Test.YtnhnkfdhkifahaaGreatDoorCdLaid
import Derived.Test.YtnhnkfdhkifahaaGreatDoorEntVal
import Derived.Test.YtnhnkfdhkifahaaGreatDoorLaid
import Derived.Test.YtnhnkfdhkifahaaGreatDoorCards
import Derived.Test.YtnhnkfdhkifahaaGreatDoorTie
import Derived.SevenTiedAt
import Derived.ProofKit
import Derived.LaidMore
import Derived.OpenShut
import Derived.ShutString
import Derived.Stop.Joined
namespace Go.Proofs.YtnhnkfdhkifahaaGreatDoor.fnIxOneEntry
open Go.ChangeShapes Go.WideShapes Go.ChangeAt Go.WideMaps Go.WideElems Go.RowKit
open Go.ChangeMaps (open_string shut_string)
theorem own : ownKnob Tryz.prog.godebug = none := by kernel_rfl
/-- The heap that the program's own door leaves meets the condition. -/
theorem door_met (os : Os) (args : Array Value) : laidMetH Tryz.prog Rows.fnIxOneEntryRow.laid ((World.doorLaid Tryz.prog 400 os).forCall (fun _ _ => 0) ⟨#[], args, []⟩).memory :=
  laidMetH_of_parts3 (fuel := 8) (laidMet_of_run' 8 (by kernel_rfl) (by kernel_rfl)) (by kernel_rfl) (by kernel_rfl)
set_option maxRecDepth 100000 in
theorem lifted (os : Os) (started : os.Started) (H : Type) (enc : TypeId × Value → H) :
    ReturnsInHanded {} Tryz.checked os 3 .any (fun w args => (Rows.fnIxOneEntrySpec.pre enc Tryz.prog Tryz.f3 [] false w args ∧ laidMetH Tryz.prog Rows.fnIxOneEntryRow.laid w) ∧ sizedMet enc Tryz.prog Tryz.f3 (OpenSpec.ofChange Rows.fnIxOneEntrySpec) false w args)
      (Rows.fnIxOneEntrySpec.post enc Tryz.prog Tryz.f3 false true false false) := by
  refine returnsInHanded_of_change_and (C := Tryz.checked) (X := fun w _ => laidMetH Tryz.prog Rows.fnIxOneEntryRow.laid w) (fun _ _ _ hh h => h.of_heap hh) own started (by kernel_rfl) Tryz.func3
    (ChangeSpec.witness_shaped (enc := enc) (C := Tryz.checked) (os := os) (X := fun w _ => laidMetH Tryz.prog Rows.fnIxOneEntryRow.laid w) false (World.doorLaid Tryz.prog 400 os) #[.agg #[.int .u64 0, .int .u64 0, .int .u64 0, .string ⟨#[]⟩, .int .u64 0]] 8 rfl (World.shaped_of_RefB (by kernel_rfl) (by kernel_rfl)) (by kernel_rfl) (by kernel_rfl) (by kernel_rfl) (door_met os _)) ?_
  intro W base args ds gs before hval0 hW _ _ HL _
  have hval : ∀ (j : Nat) t v, Tryz.f3.params[j]? = some t → args[j]? = some v → Value.okWide Tryz.prog W .any base t v := hval0
  have hW' := hW
  obtain ⟨p, q, hA0, hV, rfl, _, _⟩ := hW
  have hA : DataW.TrodAll enc Tryz.prog W 0 (fun _ => true) true Tryz.f3.params.toList args.toList ds p := hA0
  rw [Tryz.params3] at hA hval
  obtain ⟨v0, vs0, d0, ds0, p0, q0, hargs, rfl, rfl, t0, r0⟩ := trodAll_cons hA
  obtain ⟨rfl, rfl, rfl⟩ := trodAll_nil r0
  obtain rfl : args = #[v0] := by cases args; simp_all
  obtain ⟨rfl, rfl⟩ := trodVars_none hV
  obtain ⟨e0, rfl, rfl, rfl, hwf0⟩ := open_entv (hval 0 26 v0 rfl rfl) t0
  clear hA0 hval0
  refine (ixOne_walk e0.v e0.codec e0.code e0.off e0.s W (by have := hwf0.1.2.2.1; omega) (by have := hwf0.2; omega) (mhErrs_laid (l := Rows.fnIxOneEntryRow.laid) (by kernel_rfl) HL (by simp [Rows.fnIxOneEntryRow]) (by simp [Rows.fnIxOneEntryRow]) (by simp [Rows.fnIxOneEntryRow]) (by simp [Rows.fnIxOneEntryRow]))).mono fun e W' ⟨he, bel⟩ => ?_
  subst he
  exact ⟨_, rfl, _, _, _, [], _, [], hW', trodAll_mk1 (shut_bool Tryz.underlying4 _), (trodAll_cons_mk (shut_entv hwf0) trodAll_mk0), rfl, bel.frame _, fun h => by cases h⟩
theorem over : Rows.FnIxOneEntrySaid :=
  OpenClaim.holds_of_wide 3 Tryz.f3 rfl rfl rfl rfl rfl rfl rfl ⟨rfl, rfl, rfl, rfl, rfl⟩ rfl rfl rfl rfl rfl (by kernel_rfl) Tryz.func3 (by kernel_rfl)
    (of_decide_eq_true (by kernel_rfl)) (by unfold Func.isWrapper; first | (rw [if_pos (by decide +kernel)]; kernel_rfl) | (rw [if_neg (by decide +kernel)]; exact ⟨rfl, rfl⟩))
    (fun os started H enc _ => lifted os started H enc)
theorem carded : Rows.FnIxOneEntryCardSaid :=
  Claim7.holds_tied_plain_at .later [] [.sentinel, .sentinel, .sentinel, .sentinel, .sentinel, .sentinel, .data] true (true, "cd45967f454656230ba0beadff294ee1941f41caefc9ee660d1c074963d2f098") false
    over (fun _ h => by cases h) (by kernel_rfl) (fun _ h => by cases h) fnIxOneEntry_row_tie rfl ⟨rfl, rfl⟩ (by kernel_rfl) rfl
    (fun f fn hf hfn => by
      obtain rfl : f = 3 := Option.some.inj ((show Tryz.prog.funcNamed "pub-droshky/laws.FnIxOneEntry" = some 3 by kernel_rfl).symm.trans hf) |>.symm
      obtain rfl : fn = Tryz.f3 := (Option.some.inj (Tryz.func3.symm.trans hfn)).symm
      exact ⟨by kernel_rfl, fun j t ht => by
        rw [Tryz.params3] at ht
        have hm : t ∈ [26] := by simpa using Array.mem_of_getElem? ht
        have hall : ([26].all fun u => !Tryz.prog.wantsStandIn u) = true := by kernel_rfl
        exact (show Tryz.prog.wantsStandIn t = false by simpa using List.all_eq_true.1 hall t hm)⟩)
    (by kernel_rfl)
end Go.Proofs.YtnhnkfdhkifahaaGreatDoor.fnIxOneEntry
namespace Go.Proofs.YtnhnkfdhkifahaaGreatDoor
theorem fnIxOneEntry_card : Rows.FnIxOneEntryCardSaid := fnIxOneEntry.carded
end Go.Proofs.YtnhnkfdhkifahaaGreatDoor
