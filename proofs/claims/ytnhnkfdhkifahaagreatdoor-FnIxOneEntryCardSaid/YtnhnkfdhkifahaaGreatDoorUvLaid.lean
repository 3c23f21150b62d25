/- What the rows' condition gives: the three variables of package varint hold errors. -/
import Derived.Test.YtnhnkfdhkifahaaGreatDoorLaid
import Derived.Test.YtnhnkfdhkifahaaGreatDoorUvLaws
namespace Go.Proofs.YtnhnkfdhkifahaaGreatDoor
open Go.RowKit

theorem uvErrs_of {W : World} {l : List (String × DataW Unit)} (hp : l.all (fun x => x.2.handleName?.isNone) = true) (h : laidMetH Tryz.prog l W)
    (h1 : ("pub-droshky/pub/varint.ErrOverflow", Rows.laid_pub_droshky_pub_varint_ErrOverflow) ∈ l) (h2 : ("pub-droshky/pub/varint.ErrNotMinimal", Rows.laid_pub_droshky_pub_varint_ErrNotMinimal) ∈ l) (h3 : ("pub-droshky/pub/varint.ErrUnderflow", Rows.laid_pub_droshky_pub_varint_ErrUnderflow) ∈ l) : UvErrs W :=
  ⟨laid_iface hp h h1 (g := 5) (t := 38) (by kernel_rfl) (by kernel_rfl) Tryz.underlying38,
   laid_iface hp h h2 (g := 6) (t := 38) (by kernel_rfl) (by kernel_rfl) Tryz.underlying38,
   laid_iface hp h h3 (g := 7) (t := 38) (by kernel_rfl) (by kernel_rfl) Tryz.underlying38⟩

end Go.Proofs.YtnhnkfdhkifahaaGreatDoor
