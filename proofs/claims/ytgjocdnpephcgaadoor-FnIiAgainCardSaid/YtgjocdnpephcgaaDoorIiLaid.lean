/- What a row's condition on the listed variables gives the walks of insertion indexes. -/
import Derived.Test.YtgjocdnpephcgaaDoorCdLaid
import Derived.Test.YtgjocdnpephcgaaDoorGetA
import Derived.Test.YtgjocdnpephcgaaDoorErrLaid
namespace Go.Proofs.YtgjocdnpephcgaaDoor
open Go.RowKit

theorem iiErrs_laid {W : World} {l : List (String × DataW Unit)} (hp : l.all (fun x => x.2.handleName?.isNone) = true) (h : laidMetH Tryd.prog l W)
    (h1 : ("pub-droshky/pub/varint.ErrOverflow", Rows.laid_pub_droshky_pub_varint_ErrOverflow) ∈ l) (h2 : ("pub-droshky/pub/varint.ErrNotMinimal", Rows.laid_pub_droshky_pub_varint_ErrNotMinimal) ∈ l) (h3 : ("pub-droshky/pub/varint.ErrUnderflow", Rows.laid_pub_droshky_pub_varint_ErrUnderflow) ∈ l)
    (h4 : ("pub-droshky/pub/multihash.ErrTooShort", Rows.laid_pub_droshky_pub_multihash_ErrTooShort) ∈ l) (h5 : ("pub-droshky/pub/index.ErrNotFound", Rows.laid_pub_droshky_pub_index_ErrNotFound) ∈ l) : IiErrs W :=
  ⟨mhErrs_laid hp h h1 h2 h3 h4, laid_err hp h h5 (g := 0) (by kernel_rfl) (by kernel_rfl)⟩

end Go.Proofs.YtgjocdnpephcgaaDoor
