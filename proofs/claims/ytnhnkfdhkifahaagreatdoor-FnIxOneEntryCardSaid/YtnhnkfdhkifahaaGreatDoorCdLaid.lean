/- What a row's condition on the listed variables gives the walks of identifiers. -/
import Derived.Test.YtnhnkfdhkifahaaGreatDoorUvLaid
import Derived.Test.YtnhnkfdhkifahaaGreatDoorCidRd
import Derived.ChangeSame
namespace Go.Proofs.YtnhnkfdhkifahaaGreatDoor
open Go.RowKit Go.ChangeShapes

theorem laid_undef {W : World} {l : List (String × DataW Unit)} (hp : l.all (fun x => x.2.handleName?.isNone) = true) (h : laidMetH Tryz.prog l W)
    (hx : ("pub-droshky/pub/cid.Undef", Rows.laid_pub_droshky_pub_cid_Undef) ∈ l) : ∃ s, W.cell? ⟨0, 0, none⟩ = some (.string s) := by
  rw [MakeChecks.laidMetH_plain _ _ _ hp] at h
  obtain ⟨ps, hl, _, _⟩ := h
  obtain ⟨g, t, cs, fuel, p, h1, h2, h3, h4⟩ := laid_mem hl _ hx
  obtain rfl := Option.some.inj ((show Tryz.prog.globalNamed "pub-droshky/pub/cid.Undef" = some 0 by kernel_rfl).symm.trans h1)
  obtain rfl := Option.some.inj ((show (Tryz.prog.globals[0]?).map (·.type) = some 44 by kernel_rfl).symm.trans h2)
  obtain ⟨y0, n, _, hlen, hf⟩ := trod_struct1 Tryz.underlying44 h4
  rw [show Tryz.prog.cellsOf 44 = 1 by kernel_rfl] at hlen
  simp only [show Tryz.prog.cellsOf 9 = 1 by kernel_rfl, List.drop_zero] at hf
  rw [List.take_of_length_le (by omega)] at hf
  obtain ⟨s, hcs, _⟩ := DataW.trod_string Tryz.underlying9 hf
  have hc := World.var?_cell h1 h3 0
  rw [Array.eq_one_of_toList hcs] at hc
  exact ⟨s, by simpa using hc⟩

theorem mhErrs_laid {W : World} {l : List (String × DataW Unit)} (hp : l.all (fun x => x.2.handleName?.isNone) = true) (h : laidMetH Tryz.prog l W)
    (h1 : ("pub-droshky/pub/varint.ErrOverflow", Rows.laid_pub_droshky_pub_varint_ErrOverflow) ∈ l) (h2 : ("pub-droshky/pub/varint.ErrNotMinimal", Rows.laid_pub_droshky_pub_varint_ErrNotMinimal) ∈ l) (h3 : ("pub-droshky/pub/varint.ErrUnderflow", Rows.laid_pub_droshky_pub_varint_ErrUnderflow) ∈ l)
    (h4 : ("pub-droshky/pub/multihash.ErrTooShort", Rows.laid_pub_droshky_pub_multihash_ErrTooShort) ∈ l) : MhErrs W :=
  ⟨uvErrs_of hp h h1 h2 h3, laid_iface hp h h4 (g := 2) (t := 38) (by kernel_rfl) (by kernel_rfl) Tryz.underlying38⟩

theorem cdErrs_laid {W : World} {l : List (String × DataW Unit)} (hp : l.all (fun x => x.2.handleName?.isNone) = true) (h : laidMetH Tryz.prog l W)
    (h1 : ("pub-droshky/pub/varint.ErrOverflow", Rows.laid_pub_droshky_pub_varint_ErrOverflow) ∈ l) (h2 : ("pub-droshky/pub/varint.ErrNotMinimal", Rows.laid_pub_droshky_pub_varint_ErrNotMinimal) ∈ l) (h3 : ("pub-droshky/pub/varint.ErrUnderflow", Rows.laid_pub_droshky_pub_varint_ErrUnderflow) ∈ l)
    (h4 : ("pub-droshky/pub/multihash.ErrTooShort", Rows.laid_pub_droshky_pub_multihash_ErrTooShort) ∈ l) (h5 : ("pub-droshky/pub/cid.Undef", Rows.laid_pub_droshky_pub_cid_Undef) ∈ l) : CdErrs W :=
  ⟨mhErrs_laid hp h h1 h2 h3 h4, laid_undef hp h h5⟩

end Go.Proofs.YtnhnkfdhkifahaaGreatDoor
