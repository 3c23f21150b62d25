/- The walk of cid.Cast of an identifier's bytes. -/
import Derived.Test.YtkcpgcaccgahaaaGreatDoorCdA
import Derived.Test.YtkcpgcaccgahaaaGreatDoorHdS
namespace Go.Proofs.YtkcpgcaccgahaaaGreatDoor
open Go.RowKit

set_option maxHeartbeats 4000000 in
set_option maxRecDepth 100000 in
/-- cid.Cast. -/
theorem cidCast_calls (A : Option Addr) (n c : Nat) (bs : List UInt8) (w : World) (hr : RdB w A n c bs) (he : CdErrs w) (hn : n ≤ 2147483647) (hc : isCid bs) :
    Calls Tryz.prog 130 #[.slice A n c] w fun e w' => e = .returned (.tuple #[.agg #[.string (strB bs)], .nilIface]) ∧ Below w.heap.size w w' := by
  have HC := Kp.mk (fun o => cidFrom_calls A n c bs (w.alloc o) (hr.below (bel_alloc (Below.refl _ _) o)) (he.below (bel_alloc (Below.refl _ _) o)) hn)
  have HN := Kp.mk (fun o => blk_new (w := w) (o := o) (Below.refl _ _))
  have HB0 := Kp.mk (fun o => bel_alloc (Below.refl w.heap.size w) o)
  obtain ⟨a, b, d, e, hcd⟩ := hc
  have hl := hr.len
  have HD : Kp (cdRead bs = some (a, b, d, e, n) ∧ bs.take n = bs) := ⟨by rw [hcd, hl], by rw [← hl]; exact List.take_of_length_le (Nat.le_refl _)⟩
  clear hr he hn hcd hl
  go_enter Tryz.func130, Tryz.ntmps130
  go_wp2_with fail
  refine (HC.out _).mono ?_
  rintro e w1 ⟨hu, hb⟩
  unfold CfEnd at hu
  rw [HD.out.1] at hu
  simp only at hu
  rw [HD.out.2] at hu
  subst hu
  have hb := bel_then hb (bel_alloc (Below.refl w1.heap.size w1) (.cells #[.string (strB bs)] 135))
  have hk := blk_keep (HN.out (.cells #[.string ⟨#[]⟩] 135)) hb
  have c0 := blk_cell hk 0
  have f0 := blk_frozen hk 0
  have HK := Kp.mk (And.intro hk (bel_then (HB0.out (.cells #[.string ⟨#[]⟩] 135)) hb))
  clear hb hk HC HN HB0
  go_wp2_with fail
  refine bodyPost_ret (res_cell2 rfl _ _ w.heap.size 135 #[.string (strB bs)] _ rfl (blk_set HK.out.1 0 _) Tryz.underlying135 rfl (by kernel_rfl)) rfl ?_
  exact ⟨rfl, bel_set HK.out.2 (p := ⟨w.heap.size, 0, none⟩) (Nat.le_refl _) _⟩

end Go.Proofs.YtkcpgcaccgahaaaGreatDoor
