/- The walks of util.LdReadSize and util.LdRead over a reader by its interface. -/
import Derived.Test.YtkcpgcaccgahaaaGreatDoorSrcB
import Derived.Test.YtkcpgcaccgahaaaGreatDoorLdA
namespace Go.Proofs.YtkcpgcaccgahaaaGreatDoor
open Go.RowKit

/-- What internalio.ToByteReader makes of a reader: a reader of bytes, over states S' that are states of the reader. -/
structure ToByt (T : TypeId) (pv : Value) (TB : TypeId) (pB : Value) (fb : FuncId) (bs : List UInt8) (ve vu vo vn : Value) (O' : Nat → Prop) (S S' : Nat → World → Prop) (w : World) : Prop where
  call : Calls Tryz.prog 120 #[.iface T pv] w fun e w' => e = .returned (.iface TB pB) ∧ S' 0 w' ∧ Below w.heap.size w w'
  rdr : ∀ w1, ByteRdr TB pB fb bs ve vu vo vn (fun k w' => S' k w' ∧ Ex O' w1 w')
  back : ∀ k w, S' k w → S k w

/-- What util.LdReadSize hands back. -/
def LzEnd (bs : List UInt8) (ze : Bool) (most : Nat) (ve : Value) (O' : Nat → Prop) (S : Nat → World → Prop) (w : World) (e : Ending) (w' : World) : Prop :=
  (∃ k, S k w') ∧ Ex O' w w' ∧
  match uvRead bs with
  | some (x, k) => if x = 0 ∧ ze = true then e = .returned (.tuple #[.int .u64 0, ve]) ∧ S k w'
    else if most < x then ∃ v, e = .returned (.tuple #[.int .u64 0, v]) ∧ NotEof v w'
    else e = .returned (.tuple #[.int .u64 x, .nilIface]) ∧ S k w'
  | none => ∃ v, e = .returned (.tuple #[.int .u64 0, v]) ∧ ((bs = [] ∧ v = ve) ∨ (bs ≠ [] ∧ NotEof v w'))

set_option maxHeartbeats 4000000 in
set_option maxRecDepth 100000 in
/-- util.LdReadSize. -/
theorem ldSizeG_calls (T : TypeId) (pv : Value) (TB : TypeId) (pB : Value) (fr fb : FuncId) (bs : List UInt8) (ve vu vo vn : Value) (O D O' : Nat → Prop) (S S' : Nat → World → Prop) (H : Src T pv fr bs ve vu vo vn O D S) (ze : Bool) (most : Nat) (w : World) (hT : ToByt T pv TB pB fb bs ve vu vo vn O' S S' w)
    (hl : ∀ k w', S k w' → ∃ v, w'.cell? ⟨1, 0, none⟩ = some v ∧ NotEof v w') :
    Calls Tryz.prog 99 #[.iface T pv, .bool ze, .int .u64 most] w fun e w' => LzEnd bs ze most ve O' S w e w' := by
  have HU := Kp.mk (fun w1 h0 => readUv_calls _ _ _ _ _ _ _ _ _ (hT.rdr w1) w1 ⟨h0, Ex.refl _ _⟩)
  have HT := Kp.mk hT.call
  have HR := Kp.mk hT.back
  have HE := Kp.mk H.errs
  have HL := Kp.mk hl
  have HF := Kp.mk (fun k w' n (h : S k w') => H.drew h n)
  clear hT hl H
  go_enter Tryz.func99, Tryz.ntmps99
  go_wp2_with fail
  refine HT.out.mono ?_
  rintro e w0 ⟨rfl, hs0, hb0⟩
  have he0 := HE.out _ _ (HR.out _ _ hs0)
  obtain ⟨Te, ue, rfl⟩ := he0.eofE.iface
  have HB0 := Kp.mk hb0
  have HS0 := Kp.mk hs0
  clear he0 hs0 hb0 HT
  go_wp2_with fail
  refine (HU.out w0 HS0.out).mono ?_
  rintro e w1 hu
  unfold RuEnd at hu
  cases hrd : uvRead bs with
  | none =>
    rw [hrd] at hu
    obtain ⟨k, v, ⟨hs, hb⟩, rfl, hv⟩ := hu
    have HD : Kp (LzEnd bs ze most (.iface Te ue) O' S w (.returned (.tuple #[.int .u64 0, v])) w1) := ⟨⟨k, HR.out _ _ hs⟩, (Ex.of_below HB0.out).trans hb, by rw [hrd]; exact ⟨v, rfl, hv⟩⟩
    obtain ⟨T1, u, rfl⟩ : ∃ T u, v = .iface T u := by
      rcases hv with ⟨_, rfl⟩ | ⟨_, t, _, h⟩
      · exact ⟨_, _, rfl⟩
      · exact h.iface
    clear hrd hv hs hb HU
    go_wp2_with fail
    go_ret2
    exact HD.out
  | some p =>
    obtain ⟨x, k⟩ := p
    rw [hrd] at hu
    obtain ⟨rfl, hs', hb'⟩ := hu
    have hs := HR.out _ _ hs'
    have hb : Ex O' w w1 := (Ex.of_below HB0.out).trans hb'
    have hx := (uvRead_some hrd).2.2.2
    have ce := (HE.out _ _ hs).eof
    clear hs' hb'
    by_cases h0 : x = 0 ∧ ze = true
    · obtain ⟨rfl, rfl⟩ := h0
      have HD := Kp.mk (And.intro hrd (And.intro hs hb))
      clear hrd hs hb hx
      go_wp2_with fail
      go_quiet (fail)
      go_wp2
      go_ret2
      exact ⟨⟨_, HF.out _ _ _ HD.out.2.1⟩, HD.out.2.2.drewN _, by rw [HD.out.1]; simp only; rw [if_pos (by simp)]; exact ⟨rfl, HF.out _ _ _ HD.out.2.1⟩⟩
    · by_cases hm : most < x
      · obtain ⟨v, hv, hne⟩ := HL.out _ _ hs
        have HD := Kp.mk (And.intro hrd (And.intro hs (And.intro hb (And.intro h0 hne))))
        have hx0 : ((x : Int) == 0) = false := beq_eq_false_iff_ne.2 (by omega)
        clear hrd hs hb h0 hne hx
        go_wp2_with fail
        go_quiet (fail)
        go_wp2
        go_ret2
        exact ⟨⟨_, HF.out _ _ _ HD.out.2.1⟩, HD.out.2.2.1.drewN _, by rw [HD.out.1]; simp only; rw [if_neg HD.out.2.2.2.1, if_pos hm]; exact ⟨_, rfl, HD.out.2.2.2.2.below (below_self_drewN _ _)⟩⟩
      · have HD := Kp.mk (And.intro hrd (And.intro hs (And.intro hb h0)))
        by_cases hx0 : x = 0
        · subst hx0
          obtain rfl : ze = false := by cases ze; rfl; exact absurd ⟨rfl, rfl⟩ h0
          clear hrd hs hb h0 hx
          go_wp2_with fail
          go_ret2
          exact ⟨⟨_, HD.out.2.1⟩, HD.out.2.2.1, by rw [HD.out.1]; simp only; rw [if_neg HD.out.2.2.2, if_neg hm]; exact ⟨rfl, HD.out.2.1⟩⟩
        · have hx1 : ((x : Int) == 0) = false := beq_eq_false_iff_ne.2 (by omega)
          clear hrd hs hb h0 hx hx0
          go_wp2_with fail
          go_ret2
          exact ⟨⟨_, HD.out.2.1⟩, HD.out.2.2.1, by rw [HD.out.1]; simp only; rw [if_neg HD.out.2.2.2, if_neg hm]; exact ⟨rfl, HD.out.2.1⟩⟩

/-- What util.LdRead hands back. -/
def LgEnd (r : LongR) (ve : Value) (O : Nat → Prop) (S : Nat → World → Prop) (w : World) (e : Ending) (w' : World) : Prop :=
  (∃ k, S k w') ∧ Ex O w w' ∧
  match r with
  | .ended _ => e = .returned (.tuple #[.slice none 0 0, ve])
  | .left => e = .returned (.tuple #[.slice none 0 0, ve])
  | .failed => ∃ v, e = .returned (.tuple #[.slice none 0 0, v]) ∧ NotEof v w'
  | .read d N => ∃ gd, w.heap.size ≤ gd ∧ gd < w'.heap.size ∧ e = .returned (.tuple #[.slice (some ⟨gd, 0, none⟩) d.length d.length, .nilIface]) ∧ RdB w' (some ⟨gd, 0, none⟩) d.length d.length d ∧ S N w'

set_option maxHeartbeats 4000000 in
set_option maxRecDepth 100000 in
/-- util.LdRead. -/
theorem ldReadG_calls (T : TypeId) (pv : Value) (TB : TypeId) (pB : Value) (fr fb : FuncId) (bs : List UInt8) (ve vu vo vn : Value) (O D O' : Nat → Prop) (S S' : Nat → World → Prop) (H : Src T pv fr bs ve vu vo vn O D S) (ze : Bool) (most : Nat) (w : World) (hT : ToByt T pv TB pB fb bs ve vu vo vn O' S S' w)
    (hl : ∀ k w', S k w' → ∃ v, w'.cell? ⟨1, 0, none⟩ = some v ∧ NotEof v w') (hO : ∀ x, O' x → O x ∨ w.heap.size ≤ x) (hm : most ≤ 33554432) :
    Calls Tryz.prog 77 #[.iface T pv, .bool ze, .int .u64 most] w fun e w' => LgEnd (longRead bs ze most) ve O S w e w' := by
  have HS := Kp.mk (ldSizeG_calls T pv TB pB fr fb bs ve vu vo vn O D O' S S' H ze most w hT hl)
  have HH := Kp.mk H
  have HO := Kp.mk hO
  have HM := Kp.mk hm
  clear H hT hl hO hm
  go_enter Tryz.func77, Tryz.ntmps77
  go_wp2_with fail
  refine HS.out.mono ?_
  rintro e w1 ⟨⟨k0, hk0⟩, hb, hu⟩
  obtain ⟨Te, ue, rfl⟩ := (HH.out.errs _ _ hk0).eofE.iface
  have hbO : Ex O w w1 := ⟨hb.os, hb.tape, hb.output, hb.size, fun i hi hp => hb.block i hi (fun hx => (HO.out i hx).elim hp (fun h => by omega))⟩
  have HSZ := Kp.mk hb.size
  clear HS hb
  cases hrd : uvRead bs with
  | none =>
    rw [hrd] at hu
    obtain ⟨v, rfl, hv⟩ := hu
    obtain ⟨T1, u, rfl⟩ : ∃ T u, v = .iface T u := by
      rcases hv with ⟨_, rfl⟩ | ⟨_, t, _, h⟩
      · exact ⟨_, _, rfl⟩
      · exact h.iface
    have HD := Kp.mk (And.intro hk0 (And.intro hbO (And.intro hrd hv)))
    clear hk0 hbO hrd hv
    go_wp2_with fail
    go_ret2
    refine ⟨⟨_, HD.out.1⟩, HD.out.2.1, ?_⟩
    rcases HD.out.2.2.2 with ⟨h1, h2⟩ | ⟨h1, h2⟩
    · rw [h1, h2]; rfl
    · rw [long_bad h1 HD.out.2.2.1]; exact ⟨_, rfl, h2⟩
  | some p =>
    obtain ⟨x, k⟩ := p
    rw [hrd] at hu
    simp only at hu
    have hne := uv_ne hrd
    by_cases h0 : x = 0 ∧ ze = true
    · rw [if_pos h0] at hu
      obtain ⟨rfl, hq1⟩ := hu
      obtain ⟨rfl, rfl⟩ := h0
      have HD := Kp.mk (And.intro hk0 (And.intro hbO (long_zero (most := most) hne hrd)))
      clear hk0 hbO hrd hne hq1
      go_wp2_with fail
      go_ret2
      exact ⟨⟨_, HD.out.1⟩, HD.out.2.1, by rw [HD.out.2.2]; rfl⟩
    · rw [if_neg h0] at hu
      by_cases hmx : most < x
      · rw [if_pos hmx] at hu
        obtain ⟨v, rfl, hv⟩ := hu
        obtain ⟨T1, u, rfl⟩ : ∃ T u, v = .iface T u := by obtain ⟨t, _, h⟩ := hv; exact h.iface
        have HD := Kp.mk (And.intro hk0 (And.intro hbO (And.intro (long_much (ze := ze) hne hrd hmx) hv)))
        clear hk0 hbO hrd hne hv h0
        go_wp2_with fail
        go_ret2
        exact ⟨⟨_, HD.out.1⟩, HD.out.2.1, by rw [HD.out.2.2.1]; exact ⟨_, rfl, HD.out.2.2.2⟩⟩
      · rw [if_neg hmx] at hu
        obtain ⟨rfl, hq1⟩ := hu
        have hxm : x ≤ 33554432 := by have := HM.out; omega
        have hmk := mk_bytes_u 67 Tryz.underlying67 x (by omega)
        have HD := Kp.mk (And.intro hbO (And.intro hq1 (And.intro hrd (And.intro hne (And.intro h0 hmx)))))
        clear hbO hk0 hrd hne h0 hq1
        go_wp2_with fail
        generalize hW : w1.alloc _ = W
        have hbw : Below w1.heap.size w1 W := by rw [← hW]; exact bel_alloc (Below.refl _ _) _
        have hgd : W.heap[w1.heap.size]? = some (.cells (zeros x) 5 (0, 0)) := by rw [← hW]; exact blk_new (Below.refl _ _)
        have hSW : S k W := HH.out.below HD.out.2.1 hbw
        have hnD : ¬ D w1.heap.size := fun h => Nat.lt_irrefl _ (HH.out.old _ _ HD.out.2.1 _ h)
        have hBW : Ex O w W := HD.out.1.trans (Ex.of_below hbw)
        have hNW : ∀ w2, Ex (fun y => O y ∨ y = w1.heap.size) W w2 → Ex O w w2 := fun w2 h => HD.out.1.trans (Ex.new hbw h (fun y hy hq => hq.elim id (fun e => absurd hy (by omega))))
        have hk := (uvRead_some HD.out.2.2.1).2.1
        have HNW := Kp.mk hNW
        have HGW := Kp.mk (show w1.heap.size < W.heap.size from (Array.getElem?_eq_some_iff.1 hgd).1)
        by_cases hx0 : x = 0
        · subst hx0
          have HF := Kp.mk (fullZ_calls T pv (some ⟨w1.heap.size, 0, none⟩) 0 W)
          have HR := Kp.mk (And.intro (long_read HD.out.2.2.2.1 HD.out.2.2.1 HD.out.2.2.2.2.2 (fun h => HD.out.2.2.2.2.1 ⟨h.2, h.1⟩) (fun h => by omega) (by omega)) (And.intro hSW hBW))
          have HZ := Kp.mk (rd_of_zero (xs := bs.drop k) hgd)
          clear hW hbw hgd hSW hBW hk hmk hNW hnD
          refine HF.out.mono ?_
          rintro e w' ⟨rfl, rfl⟩
          go_wp2_with fail
          go_ret2
          refine ⟨⟨_, HR.out.2.1⟩, HR.out.2.2, ?_⟩
          rw [HR.out.1]
          exact ⟨_, HSZ.out, HGW.out, rfl, HZ.out, HR.out.2.1⟩
        · have HF := Kp.mk (fullS_calls T pv fr bs (.iface Te ue) vu vo vn O D S HH.out k W w1.heap.size 5 (zeros x) 0 x x hSW hnD hgd (by rw [zeros_size]; omega) (Nat.le_refl _) (by omega) (by omega))
          obtain ⟨v, hv⟩ : ∃ v, v = rfV x (bs.length - k) (.iface Te ue) vu := ⟨_, rfl⟩
          obtain ⟨j, hj⟩ : ∃ j, j = min x (bs.length - k) := ⟨_, rfl⟩
          obtain ⟨Tu, uu, rfl⟩ := (HH.out.errs _ _ hSW).ueofE.iface
          have HX0 : Kp (0 < x) := ⟨by omega⟩
          have HV := Kp.mk (And.intro hv hj)
          clear hW hbw hgd hSW hBW hk hmk hNW hnD hx0 hj
          refine HF.out.mono ?_
          rintro e w2 ⟨he, hs2, hd2, hx2⟩
          rw [← HV.out.1, ← HV.out.2] at he
          rw [← HV.out.2] at hs2 hd2
          subst he
          have HO2 := Kp.mk (And.intro hs2 (And.intro hd2 (HNW.out _ hx2)))
          have HLW : Kp (w1.heap.size < w2.heap.size) := ⟨Nat.lt_of_lt_of_le HGW.out hx2.size⟩
          clear hs2 hd2 hx2 HF
          unfold rfV at hv
          by_cases hall : x ≤ bs.length - k
          · rw [if_pos hall] at hv
            subst hv
            obtain rfl : j = x := by have := HV.out.2; omega
            have HR := Kp.mk (long_read HD.out.2.2.2.1 HD.out.2.2.1 HD.out.2.2.2.2.2 (fun h => HD.out.2.2.2.2.1 ⟨h.2, h.1⟩) (fun h => by have := HX0.out; omega) (by omega))
            have hlen : ((bs.drop k).take j).length = j := by rw [List.length_take, List.length_drop]; omega
            have h4 := rd_put (cm := j) HO2.out.2.1 (by rw [zeros_size, hlen]; omega) (by omega) (by omega)
            rw [hlen] at h4
            have HLE := Kp.mk (And.intro hlen h4)
            clear hlen h4 hall
            go_wp2_with fail
            go_ret2
            refine ⟨⟨_, HO2.out.1⟩, HO2.out.2.2, ?_⟩
            rw [HR.out]
            exact ⟨_, HSZ.out, HLW.out, by rw [HLE.out.1]; rfl, by rw [HLE.out.1]; exact HLE.out.2, HO2.out.1⟩
          · rw [if_neg hall] at hv
            by_cases ha : bs.length - k = 0
            · rw [if_pos ha] at hv
              subst hv
              have HR := Kp.mk (long_left HD.out.2.2.2.1 HD.out.2.2.1 HD.out.2.2.2.2.2 (fun h => HD.out.2.2.2.2.1 ⟨h.2, h.1⟩) ⟨HX0.out, by have := (uvRead_some HD.out.2.2.1).2.1; omega⟩)
              clear ha hall
              go_wp2_with fail
              go_ret2
              refine ⟨⟨_, HO2.out.1⟩, HO2.out.2.2, ?_⟩
              rw [HR.out]
              rfl
            · rw [if_neg ha] at hv
              subst hv
              have HR := Kp.mk (And.intro (long_less HD.out.2.2.2.1 HD.out.2.2.1 HD.out.2.2.2.2.2 (fun h => HD.out.2.2.2.2.1 ⟨h.2, h.1⟩) (fun h => by omega) (by omega)) (HH.out.errs _ _ HO2.out.1).ueofN)
              clear ha hall
              go_wp2_with fail
              go_ret2
              refine ⟨⟨_, HO2.out.1⟩, HO2.out.2.2, ?_⟩
              rw [HR.out.1]
              exact ⟨_, rfl, HR.out.2⟩

/-- A bytes.Reader is a reader of bytes already. -/
theorem toBytB (g ga n c i : Nat) (bs : List UInt8) (ve vu vo vn : Value) (w0 w : World) (he : RdErrs ve vu vo vn w0) (hg : w0.heap.size ≤ g) (hag : ga < g) (hn : n ≤ 4611686018427387904) (hS : BrS w0 g ga n c i bs 0 w) :
    ToByt 104 (.pointer (some ⟨g, 0, none⟩)) 104 (.pointer (some ⟨g, 0, none⟩)) 226 (bs.drop i) ve vu vo vn (· = g) (BrS w0 g ga n c i bs) (BrS w0 g ga n c i bs) w :=
  ⟨(toByteRdr_calls _ w).mono (by rintro e w' ⟨rfl, rfl⟩; exact ⟨rfl, hS, Below.refl _ _⟩), fun w1 => byteRdr_byt (srcB g ga n c i bs ve vu vo vn w0 he hg hag hn) (bytB g ga n c i bs ve vu vo vn w0 he hg hag hn) w1, fun _ _ h => h⟩

end Go.Proofs.YtkcpgcaccgahaaaGreatDoor
