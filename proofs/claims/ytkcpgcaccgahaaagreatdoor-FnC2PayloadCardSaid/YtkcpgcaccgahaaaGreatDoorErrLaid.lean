/- The package-level variables that are errors: what the rows' condition says of them, and that two with different texts are different. -/
import Derived.Test.YtkcpgcaccgahaaaGreatDoorLaid
import Derived.LaidEql
import Derived.LaidLaws
namespace Go.Proofs.YtkcpgcaccgahaaaGreatDoor
open Go.RowKit

/-- An error that errors.New made of a text. -/
def ErrV (v : Value) (txt : List UInt8) (w : World) : Prop := ∃ a s c t, v = .iface 178 (.pointer (some a)) ∧ w.cell? a = some (.string s) ∧ s.data.toList = txt ∧ w.heap[a.block]? = some (.cells c t (0, 0))
theorem ErrV.below {v : Value} {txt : List UInt8} {w w1 : World} (h : ErrV v txt w) (hb : Below w.heap.size w w1) : ErrV v txt w1 := by
  obtain ⟨a, s, c, t, rfl, h1, h2, h3⟩ := h
  exact ⟨a, s, c, t, rfl, cell_bel hb h1, h2, blk_keep h3 hb⟩
theorem ErrV.iface {v : Value} {txt : List UInt8} {w : World} (h : ErrV v txt w) : ∃ T u, v = .iface T u := by
  obtain ⟨a, s, c, t, rfl, _⟩ := h; exact ⟨_, _, rfl⟩
theorem errV_other {u v : Value} {t1 t2 : List UInt8} {w : World} (h1 : ErrV u t1 w) (h2 : ErrV v t2 w) (ne : t1 ≠ t2) : (binOp .eql 64 u v).run Tryz.prog w = .ok (.bool false) w := by
  obtain ⟨a, s, c, t, rfl, k1, k2, k3⟩ := h1
  obtain ⟨b, s', c', t', rfl, m1, m2, m3⟩ := h2
  obtain ⟨i, hi, hcm⟩ := Option.map_eq_some_iff.1 (show (Tryz.prog.info? 178).map (·.comparable) = some true by kernel_rfl)
  obtain ⟨j, hj, hsz⟩ := Option.map_eq_some_iff.1 (show (Tryz.prog.info? 180).map (·.size) = some 1 by kernel_rfl)
  refine run_eql_iface_ptr_other w Tryz.underlying64 Tryz.underlying178 hi hcm hj (by rw [hsz]; decide) ?_ k3 m3
  rintro rfl
  rw [k1] at m1
  injection m1 with m1
  injection m1 with m1
  subst m1
  exact ne (k2.symm.trans m2)
theorem errV_same {u : Value} {t1 : List UInt8} {w : World} (h1 : ErrV u t1 w) (w' : World) : (binOp .eql 64 u u).run Tryz.prog w' = .ok (.bool true) w' := by
  obtain ⟨a, s, c, t, rfl, _⟩ := h1
  obtain ⟨i, hi, hcm⟩ := Option.map_eq_some_iff.1 (show (Tryz.prog.info? 178).map (·.comparable) = some true by kernel_rfl)
  obtain ⟨j, hj, _⟩ := Option.map_eq_some_iff.1 (show (Tryz.prog.info? 180).map (·.size) = some 1 by kernel_rfl)
  exact run_eql_iface_ptr_same w' a Tryz.underlying64 Tryz.underlying178 hi hcm hj

theorem laid_mem2 {W : World} : ∀ {l : List (String × DataW Unit)} {ps : List MemPlace}, DataW.LaidVars Tryz.prog W l ps → ∀ x ∈ l,
    ∃ g t cs fuel p, Tryz.prog.globalNamed x.1 = some g ∧ (Tryz.prog.globals[g]?).map (·.type) = some t ∧ W.var? Tryz.prog x.1 = some cs ∧ DataW.trod (fun _ => ()) Tryz.prog W 0 (fun _ => true) false fuel t cs.toList = some (x.2, p) ∧ (0 < cs.size → MemPlace.cell g 0 ∈ ps) ∧ ∀ m ∈ p, m ∈ ps
  | [], _, _, x, hx => by cases hx
  | (n, d) :: r, ps, h, x, hx => by
    obtain ⟨g, t, cs, fuel, p, q, h1, h2, h3, h4, h5, h6⟩ := h
    subst h6
    rcases List.mem_cons.1 hx with rfl | hx
    · exact ⟨g, t, cs, fuel, p, h1, h2, h3, h4, fun h0 => by simp [MemPlace.row]; omega, fun m hm => by simp [hm]⟩
    · obtain ⟨g', t', cs', fuel', p', k1, k2, k3, k4, k5, k6⟩ := laid_mem2 h5 x hx
      exact ⟨g', t', cs', fuel', p', k1, k2, k3, k4, fun h0 => by simp [k5 h0], fun m hm => by simp [k6 m hm]⟩

theorem star_row (u : TypeId) (h : Tryz.prog.typeName? 3 u = some "*errors.errorString") : u = 178 := by
  have star : ("*errors.errorString" : String) = "*" ++ "errors.errorString" := by decide
  exact typeName_ptr_named (nm := "errors.errorString") (by rw [← star]; kernel_rfl) (by kernel_rfl) (by decide) u (by rw [← star]; exact h)

set_option maxRecDepth 100000 in
/-- A listed error. -/
theorem laid_err {W : World} {l : List (String × DataW Unit)} (hp : l.all (fun x => x.2.handleName?.isNone) = true) (h : laidMetH Tryz.prog l W) {n : String} {txt : List UInt8} (hx : (n, DataW.iface "*errors.errorString" (.ptr (.agg [.lit (.string txt)]))) ∈ l) {g : Nat}
    (hg : Tryz.prog.globalNamed n = some g) (ht : (Tryz.prog.globals[g]?).map (·.type) = some 64) : ∃ v, W.cell? ⟨g, 0, none⟩ = some v ∧ ErrV v txt W := by
  rw [MakeChecks.laidMetH_plain _ _ _ hp] at h
  obtain ⟨ps, hl, hnd, hrows⟩ := h
  obtain ⟨g', t', cs, fuel, p, h1, h2, h3, h4, h5, h6⟩ := laid_mem2 hl _ hx
  obtain rfl := Option.some.inj (hg.symm.trans h1)
  obtain rfl := Option.some.inj (ht.symm.trans h2)
  obtain ⟨l0⟩ := cs
  have ok0 : ∀ u v, l0 = [.iface u v] → Value.okWide Tryz.prog W .any 0 u v := fun u v e => by
    subst e
    exact (hrows g 0 (h5 (by simp))).2 u v (by simpa using World.var?_cell h1 h3 0)
  obtain ⟨a, s, rfl, hc, hs, _, rfl⟩ := errorString_of_trod Tryz.underlying64 star_row Tryz.underlying178 Tryz.underlying180 rfl rfl Tryz.underlying9 (by kernel_rfl) (by kernel_rfl) h4 ok0
  obtain ⟨c, t, hb⟩ := (hrows a.block a.off (h6 _ (by simp [MemPlace.row]))).1
  exact ⟨_, by simpa using World.var?_cell h1 h3 0, a, s, c, t, rfl, hc, hs, hb⟩

end Go.Proofs.YtkcpgcaccgahaaaGreatDoor
