/- The walks of internalio.ToByteReader, util.LdReadSize and util.LdRead over a bytes.Reader. -/
import Derived.Test.YtdppnlomhlnbkaaDoorRdFullG
import Derived.Test.YtdppnlomhlnbkaaDoorRdFull
namespace Go.Proofs.YtdppnlomhlnbkaaDoor
open Go.RowKit

set_option maxHeartbeats 2000000 in
set_option maxRecDepth 100000 in
/-- io.ReadFull, where as many bytes are there. -/
theorem fullAll_calls (g ga gd n c m i : Nat) (q : Int) (bs : List UInt8) (w : World) (hg : RdrAt w g ga n c i q) (hr : RdB w (some ⟨ga, 0, none⟩) n c bs) (hag : ga < g) (hgd : g < gd)
    (hd : w.heap[gd]? = some (.cells (zeros m) 5 (0, 0))) (hm : 0 < m) (hmi : i + m ≤ n) (hn : n ≤ 4611686018427387904) :
    Calls Tryd.prog 49 #[.iface 65 (.pointer (some ⟨g, 0, none⟩)), .slice (some ⟨gd, 0, none⟩) m m] w fun e w' => (e = .returned (.tuple #[.int .i64 m, .nilIface]) ∧ RdrAt w' g ga n c (i + m) (-1) ∧ RdB w' (some ⟨gd, 0, none⟩) m m ((bs.drop i).take m)) ∧ Below g w w' := by
  have H := Kp.mk (readAtLeast_calls g ga gd n c m i q bs w hg hr hag hgd hd hm hmi hn)
  clear hg hr hag hgd hd hm hmi hn
  go_enter Tryd.func49, Tryd.ntmps49
  go_wp2_with fail
  refine H.out.mono ?_
  rintro e w1 ⟨⟨rfl, h1, h2⟩, h3⟩
  have HK := Kp.mk (And.intro h1 (And.intro h2 h3))
  clear h1 h2 h3
  go_wp2_with fail
  go_ret2
  exact ⟨⟨rfl, HK.out.1, HK.out.2.1⟩, HK.out.2.2⟩

/-- A bytes.Reader as a reader of bytes. -/
theorem byteRdr_of (g ga n c i : Nat) (bs : List UInt8) (ve vu vo vn : Value) (w : World) (hr : RdB w (some ⟨ga, 0, none⟩) n c bs) (hag : ga < g) (hn : n ≤ 4611686018427387904) (hlt : 1 < g) (he : ∀ w', Below g w w' → RdErrs ve vu vo vn w') :
    ByteRdr 65 (.pointer (some ⟨g, 0, none⟩)) 94 (bs.drop i) ve vu vo vn (fun k w' => (∃ q, RdrAt w' g ga n c (i + k) q) ∧ Below g w w') := by
  have hl := hr.len
  refine ⟨fun _ => by kernel_rfl, enters_of Tryd.func94 (by kernel_rfl) rfl, ?_, ?_, fun k w' h => he w' h.2, fun k w' n h => ⟨h.1, bel_drewN h.2 n⟩⟩
  · rintro k w' b ⟨⟨q, h1⟩, h2⟩ hb
    rw [List.getElem?_drop] at hb
    refine (rdByte_calls g ga n c (i + k) q bs w' h1 (hr.belowB h2 hag) hag b hb hn).mono ?_
    rintro e w2 ⟨rfl, h3, h4⟩
    exact ⟨rfl, ⟨_, h3⟩, h2.trans h4⟩
  · rintro k w' ⟨⟨q, h1⟩, h2⟩ hb
    rw [List.getElem?_drop, List.getElem?_eq_none_iff] at hb
    refine (rdByteEnd_calls g ga n c (i + k) q ve w' h1 (by omega) (he w' h2).eof hlt).mono ?_
    rintro e w2 ⟨rfl, h3, h4⟩
    exact ⟨rfl, ⟨_, h3⟩, h2.trans h4⟩

set_option maxHeartbeats 800000 in
set_option maxRecDepth 100000 in
theorem toByteRdr_calls (p : Value) (w : World) :
    Calls Tryd.prog 68 #[.iface 65 p] w fun e w' => e = .returned (.iface 65 p) ∧ w = w' := by
  have hta : ∀ W, (Instr.typeAssert (.iface 65 p) 107 113 true).run Tryd.prog W = .ok (.tuple #[.iface 65 p, .bool true]) W := fun _ => by kernel_rfl
  go_enter Tryd.func68, Tryd.ntmps68
  go_wp2
  go_ret
  exact ⟨rfl, rfl⟩

/-- What util.LdReadSize hands back of what stands behind place i. -/
def LsEnd (g ga n c i : Nat) (rest : List UInt8) (ze : Bool) (most : Nat) (ve : Value) (w : World) (e : Ending) (w' : World) : Prop :=
  (∃ j q, RdrAt w' g ga n c j q) ∧ Below g w w' ∧
  match uvRead rest with
  | some (x, k) => if x = 0 ∧ ze = true then e = .returned (.tuple #[.int .u64 0, ve]) ∧ (∃ q, RdrAt w' g ga n c (i + k) q)
    else if most < x then ∃ v, e = .returned (.tuple #[.int .u64 0, v]) ∧ NotEof v w'
    else e = .returned (.tuple #[.int .u64 x, .nilIface]) ∧ ∃ q, RdrAt w' g ga n c (i + k) q
  | none => ∃ v, e = .returned (.tuple #[.int .u64 0, v]) ∧ ((rest = [] ∧ v = ve) ∨ (rest ≠ [] ∧ NotEof v w'))

set_option maxHeartbeats 4000000 in
set_option maxRecDepth 100000 in
/-- util.LdReadSize. -/
theorem ldSize_calls (g ga n c i : Nat) (q : Int) (bs : List UInt8) (ve vu vo vn : Value) (ze : Bool) (most : Nat) (w : World) (hg : RdrAt w g ga n c i q) (hr : RdB w (some ⟨ga, 0, none⟩) n c bs) (hag : ga < g) (hn : n ≤ 4611686018427387904) (hlt : 1 < g) (he : ∀ w', Below g w w' → RdErrs ve vu vo vn w')
    (hl : ∀ w', Below g w w' → ∃ v, w'.cell? ⟨6, 0, none⟩ = some v ∧ NotEof v w') :
    Calls Tryd.prog 54 #[.iface 65 (.pointer (some ⟨g, 0, none⟩)), .bool ze, .int .u64 most] w fun e w' => LsEnd g ga n c i (bs.drop i) ze most ve w e w' := by
  have H := byteRdr_of g ga n c i bs ve vu vo vn w hr hag hn hlt he
  have HU := Kp.mk (readUv_calls _ _ _ _ _ _ _ _ _ H w ⟨⟨q, hg⟩, Below.refl _ _⟩)
  have HT := Kp.mk (fun w => toByteRdr_calls (.pointer (some ⟨g, 0, none⟩)) w)
  have HE := Kp.mk he
  have HL := Kp.mk hl
  have he0 := he w (Below.refl _ _)
  obtain ⟨Te, ue, rfl⟩ := he0.eofE.iface
  clear H hg hr hag hlt he hl he0
  go_enter Tryd.func54, Tryd.ntmps54
  go_wp2_with fail
  refine (HT.out _).mono ?_
  rintro e w' ⟨rfl, rfl⟩
  go_wp2_with fail
  refine HU.out.mono ?_
  rintro e w1 hu
  unfold RuEnd at hu
  cases hrd : uvRead (bs.drop i) with
  | none =>
    rw [hrd] at hu
    obtain ⟨k, v, ⟨⟨q1, hs⟩, hb⟩, rfl, hv⟩ := hu
    have HD : Kp (LsEnd g ga n c i (bs.drop i) ze most (.iface Te ue) w (.returned (.tuple #[.int .u64 0, v])) w1) := ⟨⟨_, _, hs⟩, hb, by rw [hrd]; exact ⟨v, rfl, hv⟩⟩
    obtain ⟨T, u, rfl⟩ : ∃ T u, v = .iface T u := by
      rcases hv with ⟨_, rfl⟩ | ⟨_, t, _, h⟩
      · exact ⟨_, _, rfl⟩
      · exact h.iface
    clear hrd hv hs hb HU HT
    go_wp2_with fail
    go_ret2
    exact HD.out
  | some p =>
    obtain ⟨x, k⟩ := p
    rw [hrd] at hu
    obtain ⟨rfl, ⟨q1, hs⟩, hb⟩ := hu
    have hx := (uvRead_some hrd).2.2.2
    have ce := (HE.out w1 hb).eof
    by_cases h0 : x = 0 ∧ ze = true
    · obtain ⟨rfl, rfl⟩ := h0
      have HD := Kp.mk (And.intro hrd (And.intro hs hb))
      clear hrd hs hb hx
      go_wp2_with fail
      go_quiet (fail)
      go_wp2
      go_ret2
      exact ⟨⟨_, _, HD.out.2.1⟩, bel_drewN HD.out.2.2 _, by rw [HD.out.1]; simp only; rw [if_pos (by simp)]; exact ⟨rfl, _, HD.out.2.1⟩⟩
    · by_cases hm : most < x
      · obtain ⟨v, hv, hne⟩ := HL.out w1 hb
        have HD := Kp.mk (And.intro hrd (And.intro hs (And.intro hb (And.intro h0 hne))))
        have hx0 : ((x : Int) == 0) = false := beq_eq_false_iff_ne.2 (by omega)
        clear hrd hs hb h0 hne hx
        go_wp2_with fail
        go_quiet (fail)
        go_wp2
        go_ret2
        exact ⟨⟨_, _, HD.out.2.1⟩, bel_drewN HD.out.2.2.1 _, by rw [HD.out.1]; simp only; rw [if_neg HD.out.2.2.2.1, if_pos hm]; exact ⟨_, rfl, HD.out.2.2.2.2.below (below_self_drewN _ _)⟩⟩
      · have HD := Kp.mk (And.intro hrd (And.intro hs (And.intro hb h0)))
        by_cases hx0 : x = 0
        · subst hx0
          obtain rfl : ze = false := by cases ze; rfl; exact absurd ⟨rfl, rfl⟩ h0
          clear hrd hs hb h0 hx
          go_wp2_with fail
          go_ret2
          exact ⟨⟨_, _, HD.out.2.1⟩, HD.out.2.2.1, by rw [HD.out.1]; simp only; rw [if_neg HD.out.2.2.2, if_neg hm]; exact ⟨rfl, _, HD.out.2.1⟩⟩
        · have hx1 : ((x : Int) == 0) = false := beq_eq_false_iff_ne.2 (by omega)
          clear hrd hs hb h0 hx hx0
          go_wp2_with fail
          go_ret2
          exact ⟨⟨_, _, HD.out.2.1⟩, HD.out.2.2.1, by rw [HD.out.1]; simp only; rw [if_neg HD.out.2.2.2, if_neg hm]; exact ⟨rfl, _, HD.out.2.1⟩⟩

end Go.Proofs.YtdppnlomhlnbkaaDoor
