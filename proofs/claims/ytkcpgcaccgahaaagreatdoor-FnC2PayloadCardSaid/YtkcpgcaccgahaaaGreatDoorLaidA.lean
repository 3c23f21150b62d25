/- Some texts in one: UvLaid, CdLaid, PlLaid. -/
import Derived.Test.YtkcpgcaccgahaaaGreatDoorLaid
import Derived.Test.YtkcpgcaccgahaaaGreatDoorUvLaws
import Derived.Test.YtkcpgcaccgahaaaGreatDoorCidRd
import Derived.ChangeSame
import Derived.Test.YtkcpgcaccgahaaaGreatDoorErrLaid
import Derived.Test.YtkcpgcaccgahaaaGreatDoorRdUv
namespace Go.Proofs.YtkcpgcaccgahaaaGreatDoor
open Go.RowKit

theorem uvErrs_of {W : World} {l : List (String × DataW Unit)} (hp : l.all (fun x => x.2.handleName?.isNone) = true) (h : laidMetH Tryz.prog l W)
    (h1 : ("pub-droshky/pub/varint.ErrOverflow", Rows.laid_pub_droshky_pub_varint_ErrOverflow) ∈ l) (h2 : ("pub-droshky/pub/varint.ErrNotMinimal", Rows.laid_pub_droshky_pub_varint_ErrNotMinimal) ∈ l) (h3 : ("pub-droshky/pub/varint.ErrUnderflow", Rows.laid_pub_droshky_pub_varint_ErrUnderflow) ∈ l) : UvErrs W :=
  ⟨laid_iface hp h h1 (g := 6) (t := 64) (by kernel_rfl) (by kernel_rfl) Tryz.underlying64,
   laid_iface hp h h2 (g := 7) (t := 64) (by kernel_rfl) (by kernel_rfl) Tryz.underlying64,
   laid_iface hp h h3 (g := 8) (t := 64) (by kernel_rfl) (by kernel_rfl) Tryz.underlying64⟩

end Go.Proofs.YtkcpgcaccgahaaaGreatDoor
namespace Go.Proofs.YtkcpgcaccgahaaaGreatDoor
open Go.RowKit Go.ChangeShapes

theorem laid_undef {W : World} {l : List (String × DataW Unit)} (hp : l.all (fun x => x.2.handleName?.isNone) = true) (h : laidMetH Tryz.prog l W)
    (hx : ("pub-droshky/pub/cid.Undef", Rows.laid_pub_droshky_pub_cid_Undef) ∈ l) : ∃ s, W.cell? ⟨10, 0, none⟩ = some (.string s) := by
  rw [MakeChecks.laidMetH_plain _ _ _ hp] at h
  obtain ⟨ps, hl, _, _⟩ := h
  obtain ⟨g, t, cs, fuel, p, h1, h2, h3, h4⟩ := laid_mem hl _ hx
  obtain rfl := Option.some.inj ((show Tryz.prog.globalNamed "pub-droshky/pub/cid.Undef" = some 10 by kernel_rfl).symm.trans h1)
  obtain rfl := Option.some.inj ((show (Tryz.prog.globals[10]?).map (·.type) = some 135 by kernel_rfl).symm.trans h2)
  obtain ⟨y0, n, _, hlen, hf⟩ := trod_struct1 Tryz.underlying135 h4
  rw [show Tryz.prog.cellsOf 135 = 1 by kernel_rfl] at hlen
  simp only [show Tryz.prog.cellsOf 9 = 1 by kernel_rfl, List.drop_zero] at hf
  rw [List.take_of_length_le (by omega)] at hf
  obtain ⟨s, hcs, _⟩ := DataW.trod_string Tryz.underlying9 hf
  have hc := World.var?_cell h1 h3 0
  rw [Array.eq_one_of_toList hcs] at hc
  exact ⟨s, by simpa using hc⟩

theorem mhErrs_laid {W : World} {l : List (String × DataW Unit)} (hp : l.all (fun x => x.2.handleName?.isNone) = true) (h : laidMetH Tryz.prog l W)
    (h1 : ("pub-droshky/pub/varint.ErrOverflow", Rows.laid_pub_droshky_pub_varint_ErrOverflow) ∈ l) (h2 : ("pub-droshky/pub/varint.ErrNotMinimal", Rows.laid_pub_droshky_pub_varint_ErrNotMinimal) ∈ l) (h3 : ("pub-droshky/pub/varint.ErrUnderflow", Rows.laid_pub_droshky_pub_varint_ErrUnderflow) ∈ l)
    (h4 : ("pub-droshky/pub/multihash.ErrTooShort", Rows.laid_pub_droshky_pub_multihash_ErrTooShort) ∈ l) : MhErrs W :=
  ⟨uvErrs_of hp h h1 h2 h3, laid_iface hp h h4 (g := 11) (t := 64) (by kernel_rfl) (by kernel_rfl) Tryz.underlying64⟩

theorem cdErrs_laid {W : World} {l : List (String × DataW Unit)} (hp : l.all (fun x => x.2.handleName?.isNone) = true) (h : laidMetH Tryz.prog l W)
    (h1 : ("pub-droshky/pub/varint.ErrOverflow", Rows.laid_pub_droshky_pub_varint_ErrOverflow) ∈ l) (h2 : ("pub-droshky/pub/varint.ErrNotMinimal", Rows.laid_pub_droshky_pub_varint_ErrNotMinimal) ∈ l) (h3 : ("pub-droshky/pub/varint.ErrUnderflow", Rows.laid_pub_droshky_pub_varint_ErrUnderflow) ∈ l)
    (h4 : ("pub-droshky/pub/multihash.ErrTooShort", Rows.laid_pub_droshky_pub_multihash_ErrTooShort) ∈ l) (h5 : ("pub-droshky/pub/cid.Undef", Rows.laid_pub_droshky_pub_cid_Undef) ∈ l) : CdErrs W :=
  ⟨mhErrs_laid hp h h1 h2 h3 h4, laid_undef hp h h5⟩

end Go.Proofs.YtkcpgcaccgahaaaGreatDoor
namespace Go.Proofs.YtkcpgcaccgahaaaGreatDoor
open Go.RowKit

/-- The variables that opening a file reads. -/
structure PlErrs (w : World) : Prop where
  rd : ∃ ve vu vo vn, RdErrs ve vu vo vn w
  cd : CdErrs w
  big : ∃ v, w.cell? ⟨1, 0, none⟩ = some v ∧ NotEof v w
theorem PlErrs.below {w w1 : World} (h : PlErrs w) (hb : Below w.heap.size w w1) : PlErrs w1 := by
  obtain ⟨⟨ve, vu, vo, vn, h1⟩, h2, v, h3, h4⟩ := h
  exact ⟨⟨ve, vu, vo, vn, h1.below hb⟩, h2.below hb, v, cell_bel hb h3, h4.below hb⟩
theorem plErrs_laid {W : World} {l : List (String × DataW Unit)} (hp : l.all (fun x => x.2.handleName?.isNone) = true) (h : laidMetH Tryz.prog l W)
    (h1 : ("io.EOF", Rows.laid_io_EOF) ∈ l) (h2 : ("io.ErrUnexpectedEOF", Rows.laid_io_ErrUnexpectedEOF) ∈ l) (h3 : ("pub-droshky/pub/varint.ErrOverflow", Rows.laid_pub_droshky_pub_varint_ErrOverflow) ∈ l)
    (h4 : ("pub-droshky/pub/varint.ErrNotMinimal", Rows.laid_pub_droshky_pub_varint_ErrNotMinimal) ∈ l) (h5 : ("pub-droshky/pub/util.ErrSectionTooLarge", Rows.laid_pub_droshky_pub_util_ErrSectionTooLarge) ∈ l)
    (h6 : ("pub-droshky/pub/varint.ErrUnderflow", Rows.laid_pub_droshky_pub_varint_ErrUnderflow) ∈ l) (h7 : ("pub-droshky/pub/multihash.ErrTooShort", Rows.laid_pub_droshky_pub_multihash_ErrTooShort) ∈ l) (h8 : ("pub-droshky/pub/cid.Undef", Rows.laid_pub_droshky_pub_cid_Undef) ∈ l) : PlErrs W := by
  obtain ⟨v1, c1, e1⟩ := laid_err hp h h1 (g := 0) (by kernel_rfl) (by kernel_rfl)
  obtain ⟨v2, c2, e2⟩ := laid_err hp h h2 (g := 5) (by kernel_rfl) (by kernel_rfl)
  obtain ⟨v3, c3, e3⟩ := laid_err hp h h3 (g := 6) (by kernel_rfl) (by kernel_rfl)
  obtain ⟨v4, c4, e4⟩ := laid_err hp h h4 (g := 7) (by kernel_rfl) (by kernel_rfl)
  obtain ⟨v5, c5, e5⟩ := laid_err hp h h5 (g := 1) (by kernel_rfl) (by kernel_rfl)
  exact ⟨⟨v1, v2, v3, v4, c1, e1, c2, e2, c3, ⟨_, by decide, e3⟩, c4, ⟨_, by decide, e4⟩⟩, cdErrs_laid hp h h3 h4 h6 h7 h8, v5, c5, _, by decide, e5⟩

end Go.Proofs.YtkcpgcaccgahaaaGreatDoor
