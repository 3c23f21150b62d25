/- What the rows' condition gives: the three variables of package varint hold errors. -/
import Derived.Test.YtgjocdnpephcgaaGreatDoorLaid
import Derived.Test.YtgjocdnpephcgaaGreatDoorUvLaws
namespace Go.Proofs.YtgjocdnpephcgaaGreatDoor
open Go.RowKit

theorem uvErrs_of {W : World} {l : List (String × DataW Unit)} (hp : l.all (fun x => x.2.handleName?.isNone) = true) (h : laidMetH Tryz.prog l W)
    (h1 : ("pub-droshky/pub/varint.ErrOverflow", Rows.laid_pub_droshky_pub_varint_ErrOverflow) ∈ l) (h2 : ("pub-droshky/pub/varint.ErrNotMinimal", Rows.laid_pub_droshky_pub_varint_ErrNotMinimal) ∈ l) (h3 : ("pub-droshky/pub/varint.ErrUnderflow", Rows.laid_pub_droshky_pub_varint_ErrUnderflow) ∈ l) : UvErrs W :=
  ⟨laid_iface hp h h1 (g := 1) (t := 55) (by kernel_rfl) (by kernel_rfl) Tryz.underlying55,
   laid_iface hp h h2 (g := 2) (t := 55) (by kernel_rfl) (by kernel_rfl) Tryz.underlying55,
   laid_iface hp h h3 (g := 3) (t := 55) (by kernel_rfl) (by kernel_rfl) Tryz.underlying55⟩

end Go.Proofs.YtgjocdnpephcgaaGreatDoor
