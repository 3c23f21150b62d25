/- The walk of bytes.Reader's ReadByte. -/
import Derived.Test.YtdppnlomhlnbkaaDoorRdr
namespace Go.Proofs.YtdppnlomhlnbkaaDoor
open Go.RowKit

set_option maxHeartbeats 2000000 in
set_option maxRecDepth 100000 in
/-- (*bytes.Reader).ReadByte where a byte is there. -/
theorem rdByte_calls (g ga n c i : Nat) (q : Int) (bs : List UInt8) (w : World) (hg : RdrAt w g ga n c i q) (hr : RdB w (some ⟨ga, 0, none⟩) n c bs) (hag : ga < g) (b : UInt8) (hb : bs[i]? = some b) (hn : n ≤ 4611686018427387904) :
    Calls Tryd.prog 94 #[.pointer (some ⟨g, 0, none⟩)] w fun e w' => e = .returned (.tuple #[.int .u8 (b.toNat : Int), .nilIface]) ∧ RdrAt w' g ga n c (i + 1) (-1) ∧ Below g w w' := by
  have hil : i < bs.length := (List.getElem?_eq_some_iff.1 hb).1
  have hin : i < n := by have := hr.len; omega
  have c0 := blk_cell hg 0
  have c1 := blk_cell hg 1
  have c2 := blk_cell hg 2
  have f2 := blk_frozen hg 2
  have q1 : decide ((n : Int) ≤ (i : Int)) = false := decide_eq_false (by omega)
  have HG := Kp.mk hg
  have HR := Kp.mk (And.intro hr (And.intro hag (And.intro hb hil)))
  have hi62 : i < 4611686018427387904 := by omega
  clear hg hr hag hb hil hn
  go_enter Tryd.func94, Tryd.ntmps94
  go_wp2_with fail
  go_quiet (fail)
  go_wp2_with fail
  generalize hW : (World.setCell _ ⟨g, 2, none⟩ _) = W3
  have hg3 : RdrAt W3 g ga n c i (-1) := by rw [← hW]; exact blk_set HG.out 2 _
  have hb3 : Below g w W3 := by rw [← hW]; exact belB_set (p := ⟨g, 2, none⟩) (Below.refl _ _) (Nat.le_refl _) _
  have hr3 := HR.out.1.belowB hb3 HR.out.2.1
  obtain ⟨g', o', e, hcell⟩ := hr3.lies (by omega)
  have e' := Option.some.inj e
  simp only [Addr.mk.injEq] at e'
  obtain ⟨rfl, rfl, _⟩ := e'
  have hci := hcell i HR.out.2.2.2
  rw [Nat.zero_add] at hci
  rw [show (bs[i]'HR.out.2.2.2) = b from Option.some.inj ((List.getElem?_eq_getElem HR.out.2.2.2).symm.trans HR.out.2.2.1)] at hci
  have HG3 := Kp.mk hg3
  have HB3 := Kp.mk hb3
  clear c0 c1 c2 f2 hW hg3 hb3 hr3 hcell e HG
  have c0 := blk_cell HG3.out 0
  have c1 := blk_cell HG3.out 1
  have f1 := blk_frozen HG3.out 1
  go_quiet (fail)
  go_wp2_with fail
  go_ret2
  refine ⟨rfl, ?_, ?_⟩
  · have := blk_set HG3.out 1 (.int .i64 ((i : Int) + 1))
    rw [show ((i : Int) + 1) = ((i + 1 : Nat) : Int) by omega] at this ⊢
    exact this
  · exact belB_set (p := ⟨g, 1, none⟩) (bel_drewN HB3.out _) (Nat.le_refl _) _

set_option maxHeartbeats 2000000 in
set_option maxRecDepth 100000 in
/-- (*bytes.Reader).ReadByte at the end. -/
theorem rdByteEnd_calls (g ga n c i : Nat) (q : Int) (v : Value) (w : World) (hg : RdrAt w g ga n c i q) (hi : n ≤ i) (hv : w.cell? ⟨1, 0, none⟩ = some v) (hlt : 1 < g) :
    Calls Tryd.prog 94 #[.pointer (some ⟨g, 0, none⟩)] w fun e w' => e = .returned (.tuple #[.int .u8 0, v]) ∧ RdrAt w' g ga n c i (-1) ∧ Below g w w' := by
  have c0 := blk_cell hg 0
  have c1 := blk_cell hg 1
  have c2 := blk_cell hg 2
  have f2 := blk_frozen hg 2
  have q1 : decide ((n : Int) ≤ (i : Int)) = true := decide_eq_true (by omega)
  have HG := Kp.mk hg
  have HV := Kp.mk hv
  clear hg hv
  go_enter Tryd.func94, Tryd.ntmps94
  go_wp2_with fail
  go_quiet (fail)
  go_wp2_with fail
  generalize hW : (World.setCell _ ⟨g, 2, none⟩ _) = W3
  have hg3 : RdrAt W3 g ga n c i (-1) := by rw [← hW]; exact blk_set HG.out 2 _
  have hb3 : Below g w W3 := by rw [← hW]; exact belB_set (p := ⟨g, 2, none⟩) (Below.refl _ _) (Nat.le_refl _) _
  have hv3 : W3.cell? ⟨1, 0, none⟩ = some v := (World.cell?_of_block (a := ⟨1, 0, none⟩) (hb3.block _ hlt)).trans HV.out
  have HG3 := Kp.mk hg3
  have HB3 := Kp.mk hb3
  clear c0 c1 c2 f2 hW hg3 hb3 HG
  go_quiet (fail)
  go_wp2_with fail
  go_ret2
  exact ⟨rfl, HG3.out, bel_drewN (bel_drewN HB3.out _) _⟩

end Go.Proofs.YtdppnlomhlnbkaaDoor
