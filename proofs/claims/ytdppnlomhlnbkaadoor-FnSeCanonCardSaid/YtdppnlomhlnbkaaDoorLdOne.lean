/- The walks of impl.LdWrite and laws.ldOne. -/
import Derived.Test.YtdppnlomhlnbkaaDoorBytesA
import Derived.Test.YtdppnlomhlnbkaaDoorLdImpl
namespace Go.Proofs.YtdppnlomhlnbkaaDoor
open Go.RowKit

theorem partsIn_mono {w : World} {B B' : Nat} {v : Value} {xs : List Value} {ss : List ByteArray} {k : Nat} (h : PartsIn w B v xs ss k) (hB : B' ≤ B) : PartsIn w B' v xs ss k := by
  refine ⟨⟨h.1.1, ?_⟩, h.2⟩
  rcases h.1.2 with ho | ⟨g, cap, cur, rfl, hg, rest⟩
  · exact .inl ho
  · exact .inr ⟨g, cap, cur, rfl, Nat.le_trans hB hg, rest⟩

set_option maxHeartbeats 4000000 in
set_option maxRecDepth 100000 in
/-- impl.LdWrite of some parts. -/
theorem implLw_calls (g c : Nat) (ss : List ByteArray) (t : TypeId) (cs : Array Value) (w : World) (hg : w.heap[g]? = some (.cells cs t (0, 0))) (hcs : ∀ (j : Nat) (s : ByteArray), ss[j]? = some s → cs[j]? = some (Value.string s)) (hN : ss.length ≤ 1000) (h0 : 0 < ss.length) (hsz : ∀ s ∈ ss, s.size ≤ 2147483647) :
    Calls Tryd.prog 22 #[.slice (some ⟨g, 0, none⟩) ss.length c] w fun e w' => e = .returned (.string (strB (Lib.uvarint (szSum ss ss.length) ++ joined ss ss.length))) ∧ Below w.heap.size w w' := by
  have HB := Kp.mk (fun ob => bytesOf_calls g c ss t cs (w.alloc ob) (blk_keep hg (bel_alloc (Below.refl _ _) ob)) hcs hN hsz)
  have HL := Kp.mk (fun B b v xs w hbf hBw hp => ldWrite_calls B b v xs ss w hbf hBw hp hN h0 hsz)
  clear hg hcs hN h0 hsz
  generalize hNe : ss.length = N at *
  clear hNe
  go_enter Tryd.func22, Tryd.ntmps22
  go_wp2_with fail
  refine (HB.out _).mono ?_
  rintro e w1 ⟨⟨v, xs, rfl, hp⟩, hb, _⟩
  have hbf : Buf w.heap.size w.heap.size [] w1 := Buf.below (Lib.fresh_isBuffer 81 5 w) hb
  have hb1 := bel_new hb
  have hs1 : w.heap.size ≤ (w.alloc (.cells #[.slice none 0 0, .int .i64 0, .int .i8 0] 81)).heap.size := (bel_alloc (Below.refl w.heap.size w) _).size
  have HW := Kp.mk (HL.out w.heap.size w.heap.size v xs w1 hbf hb1.size (partsIn_mono hp hs1))
  have HB1 := Kp.mk hb1
  clear hp hb hbf hb1 hs1 HB HL
  go_wp2_with fail
  refine HW.out.mono ?_
  rintro e w2 ⟨rfl, hbf, hb2, _, _⟩
  have HS := Kp.mk (Tryd.Buffer_String _ _ _ w2 hbf)
  have HB2 := Kp.mk (HB1.out.trans hb2)
  clear hbf hb2 HW HB1
  go_wp2_with fail
  refine HS.out.mono ?_
  rintro e w3 ⟨rfl, n, rfl⟩
  go_wp2_with fail
  go_ret
  exact ⟨rfl, bel_drewN HB2.out n⟩

/-- What the laws about sections need of the package-level variables. -/
structure LdErrs (w : World) : Prop where
  rd : ∃ ve vu vo vn, RdErrs ve vu vo vn w
  much : ∃ v, w.cell? ⟨6, 0, none⟩ = some v ∧ NotEof v w
theorem LdErrs.below {w w1 : World} (h : LdErrs w) (hb : Below w.heap.size w w1) : LdErrs w1 := by
  obtain ⟨⟨ve, vu, vo, vn, h1⟩, v, h2, h3⟩ := h
  exact ⟨⟨ve, vu, vo, vn, h1.below hb⟩, v, cell_bel hb h2, h3.below hb⟩
theorem implLd_calls' (s : ByteArray) (ze : Bool) (most : Nat) (w : World) (hs : s.size ≤ 2147483647) (hm : most ≤ 33554432) (hnl : longRead (bl s) ze most ≠ .left) (he : LdErrs w) :
    Calls Tryd.prog 18 #[.string s, .bool ze, .int .u64 most] w fun e w' => LiEnd (longRead (bl s) ze most) e ∧ Below w.heap.size w w' := by
  obtain ⟨⟨ve, vu, vo, vn, h1⟩, v, h2, h3⟩ := he
  exact implLd_calls s ze most ve vu vo vn v w hs hm hnl h1 h2 h3

theorem ldOne_long : longRead (bl ⟨#[3, 97, 98, 99]⟩) false 100 = .read [97, 98, 99] 4 := by kernel_rfl

set_option maxHeartbeats 4000000 in
set_option maxRecDepth 100000 in
/-- laws.ldOne. -/
theorem ldOne_calls (w : World) (he : LdErrs w) :
    Calls Tryd.prog 19 #[] w fun e w' => e = .returned (.bool true) ∧ Below w.heap.size w w' := by
  have HR : Kp (∀ w, LdErrs w → Calls Tryd.prog 18 #[.string ⟨#[3, 97, 98, 99]⟩, .bool false, .int .u64 100] w fun e w' => e = .returned (.tuple #[.string ⟨#[97, 98, 99]⟩, .int .i64 4, .int .u8 0]) ∧ Below w.heap.size w w') := ⟨fun w he => by
    refine (implLd_calls' ⟨#[3, 97, 98, 99]⟩ false 100 w (by decide) (by omega) (by rw [ldOne_long]; exact fun h => by cases h) he).mono ?_
    rintro e w1 ⟨hu, hb⟩
    rw [ldOne_long] at hu
    exact ⟨hu, hb⟩⟩
  have HW : Kp (∀ g t w, w.heap[g]? = some (.cells #[.string ⟨#[97]⟩, .string ⟨#[98, 99]⟩] t (0, 0)) → Calls Tryd.prog 22 #[.slice (some ⟨g, 0, none⟩) 2 2] w fun e w' => e = .returned (.string ⟨#[3, 97, 98, 99]⟩) ∧ Below w.heap.size w w') := ⟨fun g t w hg => by
    refine (implLw_calls g 2 [⟨#[97]⟩, ⟨#[98, 99]⟩] t _ w hg (fun j s h => ?_) (by decide) (by decide) (fun s h => ?_)).mono ?_
    · match j, h with
      | 0, h => simp at h; subst h; rfl
      | 1, h => simp at h; subst h; rfl
    · simp at h; rcases h with rfl | rfl <;> decide
    · rintro e w1 ⟨rfl, hb⟩
      refine ⟨?_, hb⟩
      have h1 : szSum [⟨#[97]⟩, ⟨#[98, 99]⟩] 2 = 3 := by kernel_rfl
      have h2 : joined [⟨#[97]⟩, ⟨#[98, 99]⟩] 2 = [97, 98, 99] := by kernel_rfl
      show Ending.returned (.string (strB (Lib.uvarint (szSum [⟨#[97]⟩, ⟨#[98, 99]⟩] 2) ++ joined [⟨#[97]⟩, ⟨#[98, 99]⟩] 2))) = _
      rw [h1, h2, Lib.uvarint_small (by omega)]
      rfl⟩
  have HE := Kp.mk he
  clear he
  go_enter Tryd.func19, Tryd.ntmps19
  go_wp2_with fail
  refine (HR.out _ HE.out).mono ?_
  rintro e w1 ⟨rfl, hb⟩
  have HB1 := Kp.mk hb
  clear hb HR
  go_wp2_with fail
  refine (HW.out _ _ _ (by simp [World.alloc, -World.alloc_eq]; rfl)).mono ?_
  rintro e w2 ⟨rfl, hb⟩
  have HB2 := Kp.mk (bel_then HB1.out (bel_new hb))
  clear hb HW
  go_wp2_with fail
  go_ret
  exact ⟨rfl, HB2.out⟩

end Go.Proofs.YtdppnlomhlnbkaaDoor
