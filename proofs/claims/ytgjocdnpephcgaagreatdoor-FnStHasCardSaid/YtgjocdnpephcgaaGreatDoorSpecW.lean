/- The walks of the reference's functions that write varints and multihashes. -/
import Derived.Test.YtgjocdnpephcgaaGreatDoorMhEnc
namespace Go.Proofs.YtgjocdnpephcgaaGreatDoor
open Go.RowKit

theorem rd_own {w : World} {B n : Nat} {v : Value} {bs : List UInt8} (h : w.ownsRow B 5 1 v n (Lib.byteCells bs)) (hn : 0 < n) : ∃ g c, v = .slice (some ⟨g, 0, none⟩) n c ∧ RdB w (some ⟨g, 0, none⟩) n c bs := by
  have hl : bs.length = n := by have := h.1; rw [Lib.byteCells_length] at this; omega
  rcases h.2 with ⟨_, h0⟩ | ⟨g, cap, cur, rfl, _, hg, h1, h2, h3, h4⟩
  · omega
  · refine ⟨g, cap, rfl, hl, h1, h2, fun _ => ⟨g, 0, rfl, fun i hi => ?_⟩⟩
    have hc := h.cells (g := g) rfl i (.int .u8 bs[i].toNat) (by simp [Lib.byteCells, List.getElem?_eq_getElem hi])
    rwa [add_plain] at hc

set_option maxHeartbeats 1600000 in
set_option maxRecDepth 100000 in
/-- spec.Varint. -/
theorem specVarint_calls (x : Nat) (w : World) (hx : x < 2 ^ 64) :
    Calls Tryz.prog 22 #[.int .u64 x] w fun e w' => (∃ g c, e = .returned (.slice (some ⟨g, 0, none⟩) (Lib.uvarint x).length c) ∧ RdB w' (some ⟨g, 0, none⟩) (Lib.uvarint x).length c (Lib.uvarint x)) ∧ Below w.heap.size w w' := by
  obtain ⟨i0, hi, hz0, hz1, hz2⟩ := info_parts info_u8
  have hlen := Lib.uvarint_length64 (x := x) (by omega)
  have HX := Kp.mk hx
  clear hx
  go_enter Tryz.func22, Tryz.ntmps22
  go_wp2
  go_loopw [0, 3] (fun vn vo wr => ∃ (y : Nat) (pre : List UInt8), vn = .int .u64 y ∧ y ≤ x ∧ Kp (Lib.uvarint x = pre ++ Lib.uvarint y) ∧ wr.ownsRow w.heap.size 5 1 vo pre.length (Lib.byteCells pre) ∧ Kp (Below w.heap.size w wr))
    (fun vn _ _ => (intOf vn).toNat)
  case atStart => exact ⟨x, [], rfl, Nat.le_refl _, ⟨rfl⟩, ⟨by simp [Lib.byteCells], .inl ⟨rfl, rfl⟩⟩, ⟨Below.refl _ _⟩⟩
  case round =>
    obtain ⟨y, pre, rfl, hy, hsplit, hown, hbel⟩ := hrel
    have hpl : pre.length + (Lib.uvarint y).length = (Lib.uvarint x).length := by rw [hsplit.out, List.length_append]
    have hyp := Lib.uvarint_pos y
    have hpl10 : pre.length ≤ 9 := by omega
    by_cases h128 : 128 ≤ y
    · have hor : bits .or .u8 ((y : Int) % 256) 128 = ((y % 128 + 128 : Nat) : Int) := by
        rw [Lib.u8_or128_any _ (by omega) (by omega)]
        omega
      go_wp2_with (at_builtin; refine wpList_append_own _ rfl _ _ 60 rfl w.heap.size 5 i0 (.int .u8 0) 1 1 Tryz.underlying60 hi hz0 hz1 hz2 rfl (by decide) _ _ _ rfl (hown.alloc _) ⟨wr.heap.size, 0, none⟩ 1 1 [.int .u8 ((y % 128 + 128 : Nat) : Int)] rfl rfl ?c1 ?c2 ?c3 ?c4 ?c5 ?_)
      case c1 => intro j u hj; match j, hj with | 0, hj => (simp at hj; subst hj; simp [Addr.add]) | j + 1, hj => simp at hj
      case c2 => simp [Value.oneCell']
      case c3 => unfold maxLen; omega
      case c4 => omega
      case c5 => have := hbel.out.size; simp [World.alloc, -World.alloc_eq]; omega
      intro v' w1 hown1 hgrow _
      have hb1 : Kp (Below w.heap.size w w1) := ⟨(bel_alloc hbel.out _).grown hgrow (by have := hbel.out.size; simp [World.alloc, -World.alloc_eq]; omega) (fun k hk => (hown.lt k hk).1)⟩
      have ho1 : w1.ownsRow w.heap.size 5 1 v' (pre ++ [(y % 128 + 128).toUInt8]).length (Lib.byteCells (pre ++ [(y % 128 + 128).toUInt8])) := by
        rw [Lib.byteCells_snoc pre (by omega), List.length_append]
        exact hown1
      have hs2 : Kp (Lib.uvarint x = (pre ++ [(y % 128 + 128).toUInt8]) ++ Lib.uvarint (y / 128)) := ⟨by rw [hsplit.out, Lib.uvarint_big h128]; simp⟩
      clear hown1 hgrow
      go_wp2
      go_roundw
      case rel => exact ⟨y / 128, pre ++ [(y % 128 + 128).toUInt8], by simp, by omega, hs2, ho1, hb1⟩
      case measure => simp only [intOf]; omega
    · go_wp2_with (at_builtin; refine wpList_append_own _ rfl _ _ 60 rfl w.heap.size 5 i0 (.int .u8 0) 1 1 Tryz.underlying60 hi hz0 hz1 hz2 rfl (by decide) _ _ _ rfl (hown.alloc _) ⟨wr.heap.size, 0, none⟩ 1 1 [.int .u8 ((y : Nat) : Int)] rfl rfl ?c1 ?c2 ?c3 ?c4 ?c5 ?_)
      case c1 => intro j u hj; match j, hj with | 0, hj => (simp at hj; subst hj; simp [Addr.add]) | j + 1, hj => simp at hj
      case c2 => simp [Value.oneCell']
      case c3 => unfold maxLen; omega
      case c4 => omega
      case c5 => have := hbel.out.size; simp [World.alloc, -World.alloc_eq]; omega
      intro v' w1 hown1 hgrow _
      have hb1 : Below w.heap.size w w1 := (bel_alloc hbel.out _).grown hgrow (by have := hbel.out.size; simp [World.alloc, -World.alloc_eq]; omega) (fun k hk => (hown.lt k hk).1)
      have hx2 : Lib.uvarint x = pre ++ [y.toUInt8] := by rw [hsplit.out, Lib.uvarint_small (by omega)]
      have ho1 : w1.ownsRow w.heap.size 5 1 v' (Lib.uvarint x).length (Lib.byteCells (Lib.uvarint x)) := by
        rw [hx2, Lib.byteCells_snoc pre (by omega), List.length_append]
        exact hown1
      obtain ⟨g, c, rfl, hr⟩ := rd_own ho1 (by omega)
      have HR := Kp.mk hr
      have HB := Kp.mk hb1
      clear hown1 hgrow ho1 hx2 hr hb1
      go_wp2
      go_ret
      exact ⟨⟨g, c, rfl, HR.out⟩, HB.out⟩

end Go.Proofs.YtgjocdnpephcgaaGreatDoor
