/- What a row's condition on the listed variables gives the walks of readers of identifiers. -/
import Derived.Test.YtldhnabhojfmiaaDoorRCdLaid
import Derived.Test.YtldhnabhojfmiaaDoorRCrd
import Derived.Test.YtldhnabhojfmiaaDoorRErrLaid
namespace Go.Proofs.YtldhnabhojfmiaaDoorR
open Go.RowKit

theorem caErrs_laid {W : World} {l : List (String × DataW Unit)} (hp : l.all (fun x => x.2.handleName?.isNone) = true) (h : laidMetH Tryd.prog l W)
    (h1 : ("io.EOF", Rows.laid_io_EOF) ∈ l) (h2 : ("io.ErrUnexpectedEOF", Rows.laid_io_ErrUnexpectedEOF) ∈ l) (h3 : ("pub-droshky/pub/varint.ErrOverflow", Rows.laid_pub_droshky_pub_varint_ErrOverflow) ∈ l)
    (h4 : ("pub-droshky/pub/varint.ErrNotMinimal", Rows.laid_pub_droshky_pub_varint_ErrNotMinimal) ∈ l) (h5 : ("pub-droshky/pub/varint.ErrUnderflow", Rows.laid_pub_droshky_pub_varint_ErrUnderflow) ∈ l)
    (h6 : ("pub-droshky/pub/multihash.ErrTooShort", Rows.laid_pub_droshky_pub_multihash_ErrTooShort) ∈ l) (h7 : ("pub-droshky/pub/cid.Undef", Rows.laid_pub_droshky_pub_cid_Undef) ∈ l) : CaErrs W := by
  obtain ⟨v1, c1, e1⟩ := laid_err hp h h1 (g := 2) (by kernel_rfl) (by kernel_rfl)
  obtain ⟨v2, c2, e2⟩ := laid_err hp h h2 (g := 6) (by kernel_rfl) (by kernel_rfl)
  obtain ⟨v3, c3, e3⟩ := laid_err hp h h3 (g := 3) (by kernel_rfl) (by kernel_rfl)
  obtain ⟨v4, c4, e4⟩ := laid_err hp h h4 (g := 4) (by kernel_rfl) (by kernel_rfl)
  exact ⟨⟨v1, v2, v3, v4, c1, e1, c2, e2, c3, ⟨_, by decide, e3⟩, c4, ⟨_, by decide, e4⟩⟩, cdErrs_laid hp h h3 h4 h5 h6 h7⟩

end Go.Proofs.YtldhnabhojfmiaaDoorR
