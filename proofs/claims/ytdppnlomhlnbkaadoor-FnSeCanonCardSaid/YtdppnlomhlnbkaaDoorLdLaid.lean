/- What a row's condition on the listed variables gives the walks of sections. -/
import Derived.Test.YtdppnlomhlnbkaaDoorLdOne
import Derived.Test.YtdppnlomhlnbkaaDoorErrLaid
namespace Go.Proofs.YtdppnlomhlnbkaaDoor
open Go.RowKit

theorem ldErrs_laid {W : World} {l : List (String × DataW Unit)} (hp : l.all (fun x => x.2.handleName?.isNone) = true) (h : laidMetH Tryd.prog l W)
    (h1 : ("io.EOF", Rows.laid_io_EOF) ∈ l) (h2 : ("io.ErrUnexpectedEOF", Rows.laid_io_ErrUnexpectedEOF) ∈ l) (h3 : ("pub-droshky/pub/varint.ErrOverflow", Rows.laid_pub_droshky_pub_varint_ErrOverflow) ∈ l)
    (h4 : ("pub-droshky/pub/varint.ErrNotMinimal", Rows.laid_pub_droshky_pub_varint_ErrNotMinimal) ∈ l) (h5 : ("pub-droshky/pub/util.ErrSectionTooLarge", Rows.laid_pub_droshky_pub_util_ErrSectionTooLarge) ∈ l) : LdErrs W := by
  obtain ⟨v1, c1, e1⟩ := laid_err hp h h1 (g := 1) (by kernel_rfl) (by kernel_rfl)
  obtain ⟨v2, c2, e2⟩ := laid_err hp h h2 (g := 5) (by kernel_rfl) (by kernel_rfl)
  obtain ⟨v3, c3, e3⟩ := laid_err hp h h3 (g := 2) (by kernel_rfl) (by kernel_rfl)
  obtain ⟨v4, c4, e4⟩ := laid_err hp h h4 (g := 3) (by kernel_rfl) (by kernel_rfl)
  obtain ⟨v5, c5, e5⟩ := laid_err hp h h5 (g := 6) (by kernel_rfl) (by kernel_rfl)
  exact ⟨⟨v1, v2, v3, v4, c1, e1, c2, e2, c3, ⟨_, by decide, e3⟩, c4, ⟨_, by decide, e4⟩⟩, v5, c5, _, by decide, e5⟩

end Go.Proofs.YtdppnlomhlnbkaaDoor
