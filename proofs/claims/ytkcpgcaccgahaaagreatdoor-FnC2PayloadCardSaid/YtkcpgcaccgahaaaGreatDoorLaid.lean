/- What a row's condition on the listed variables gives a walk: the cell of each that is an error. -/
import Derived.Test.YtkcpgcaccgahaaaGreatDoorRows
import Derived.Test.YtkcpgcaccgahaaaGreatDoorBase
import Derived.ProofKit
import Derived.LaidMore
import Derived.OpenShut
import Derived.ShutString
import Derived.Stop.Joined
import Derived.LaidLaws
import Derived.LaidHandle
namespace Go.Proofs.YtkcpgcaccgahaaaGreatDoor
open Go.RowKit

theorem laid_mem {W : World} : ∀ {l : List (String × DataW Unit)} {ps : List MemPlace}, DataW.LaidVars Tryz.prog W l ps → ∀ x ∈ l,
    ∃ g t cs fuel p, Tryz.prog.globalNamed x.1 = some g ∧ (Tryz.prog.globals[g]?).map (·.type) = some t ∧ W.var? Tryz.prog x.1 = some cs ∧ DataW.trod (fun _ => ()) Tryz.prog W 0 (fun _ => true) false fuel t cs.toList = some (x.2, p)
  | [], _, _, x, hx => by cases hx
  | (n, d) :: r, ps, h, x, hx => by
    obtain ⟨g, t, cs, fuel, p, q, h1, h2, h3, h4, h5, _⟩ := h
    rcases List.mem_cons.1 hx with rfl | hx
    · exact ⟨g, t, cs, fuel, p, h1, h2, h3, h4⟩
    · exact laid_mem h5 x hx

/-- A listed variable that is an error holds a value of some type. -/
theorem laid_iface {W : World} {l : List (String × DataW Unit)} (hp : l.all (fun x => x.2.handleName?.isNone) = true) (h : laidMetH Tryz.prog l W) {n : String} {nm : String} {d : DataW Unit} (hx : (n, DataW.iface nm d) ∈ l) {g t : Nat} {ms : Array (String × TypeId)}
    (hg : Tryz.prog.globalNamed n = some g) (ht : (Tryz.prog.globals[g]?).map (·.type) = some t) (hi : Tryz.prog.underlying t = some (.interface ms)) :
    ∃ T v, W.cell? ⟨g, 0, none⟩ = some (.iface T v) := by
  rw [MakeChecks.laidMetH_plain _ _ _ hp] at h
  obtain ⟨ps, hl, _, _⟩ := h
  obtain ⟨g', t', cs, fuel, p, h1, h2, h3, h4⟩ := laid_mem hl _ hx
  obtain rfl := Option.some.inj (hg.symm.trans h1)
  obtain rfl := Option.some.inj (ht.symm.trans h2)
  obtain ⟨_, u, v, hcs, _, _⟩ := iface_of_trod hi h4
  have hc := World.var?_cell hg h3 0
  rw [Array.eq_one_of_toList hcs] at hc
  exact ⟨u, v, by simpa using hc⟩

end Go.Proofs.YtkcpgcaccgahaaaGreatDoor
