/- The walk of util.LdRead over a bytes.Reader. -/
import Derived.Test.YtdppnlomhlnbkaaDoorLdUtil
import Derived.Test.YtdppnlomhlnbkaaDoorLdMath
namespace Go.Proofs.YtdppnlomhlnbkaaDoor
open Go.RowKit

theorem mk_bytes_u (t : TypeId) (ht : Tryd.prog.underlying t = some (.slice 5)) (n : Nat) (hn : n ≤ 140737488355328) (W : World) :
    (Instr.makeSlice t (.int .u64 (n : Int)) (.int .u64 (n : Int))).run Tryd.prog W = .ok (.slice (some ⟨W.heap.size, 0, none⟩) n n) (W.alloc (.cells (zeros n) 5)) := by
  obtain ⟨i, hi, hz, hs, hb⟩ := info_parts info_u8
  have h := run_make (P := Tryd.prog) W t 5 i _ ht hi hz .u64 .u64 (n : Int) (n : Int) (by omega) (by omega) (by rw [hb]; omega) (by omega)
  simp only [Int.toNat_natCast, hs, Nat.mul_one] at h
  have hm : madeCells (Value.cells (.int .u8 0)) n = zeros n := by
    apply Array.ext
    · rw [size_madeCells, zeros_size]
    · intro j h1 h2
      simp [madeCells, zeros, Value.cells, Nat.mod_one]
  rw [hm] at h
  exact h

theorem rd_of_zero {w : World} {g : Nat} (_h : w.heap[g]? = some (.cells (zeros 0) 5 (0, 0))) {xs : List UInt8} : RdB w (some ⟨g, 0, none⟩) (xs.take 0).length 0 (xs.take 0) := by
  rw [List.take_zero]
  exact ⟨rfl, Nat.le_refl _, by omega, fun h => by simp at h⟩

/-- What util.LdRead hands back of what stands behind place i. -/
def LuEnd (g ga n c i : Nat) (r : LongR) (ve : Value) (w : World) (e : Ending) (w' : World) : Prop :=
  (∃ j q, RdrAt w' g ga n c j q) ∧ Below g w w' ∧
  match r with
  | .ended _ => e = .returned (.tuple #[.slice none 0 0, ve])
  | .left => False
  | .failed => ∃ v, e = .returned (.tuple #[.slice none 0 0, v]) ∧ NotEof v w'
  | .read d N => (∃ A cap, e = .returned (.tuple #[.slice A d.length cap, .nilIface]) ∧ RdB w' A d.length cap d) ∧ ∃ q, RdrAt w' g ga n c (i + N) q

set_option maxHeartbeats 4000000 in
set_option maxRecDepth 100000 in
/-- util.LdRead. -/
theorem ldRead_calls (g ga n c i : Nat) (q : Int) (bs : List UInt8) (ve vu vo vn : Value) (ze : Bool) (most : Nat) (w : World) (hg : RdrAt w g ga n c i q) (hr : RdB w (some ⟨ga, 0, none⟩) n c bs) (hag : ga < g) (hn : n ≤ 4611686018427387904) (hlt : 1 < g) (he : ∀ w', Below g w w' → RdErrs ve vu vo vn w')
    (hl : ∀ w', Below g w w' → ∃ v, w'.cell? ⟨6, 0, none⟩ = some v ∧ NotEof v w') (hm : most ≤ 33554432) (hnl : longRead (bs.drop i) ze most ≠ .left) :
    Calls Tryd.prog 34 #[.iface 65 (.pointer (some ⟨g, 0, none⟩)), .bool ze, .int .u64 most] w fun e w' => LuEnd g ga n c i (longRead (bs.drop i) ze most) ve w e w' := by
  have HS := Kp.mk (ldSize_calls g ga n c i q bs ve vu vo vn ze most w hg hr hag hn hlt he hl)
  have he0 := he w (Below.refl _ _)
  obtain ⟨Te, ue, rfl⟩ := he0.eofE.iface
  obtain ⟨Tu, uu, rfl⟩ := he0.ueofE.iface
  have HE := Kp.mk he
  have HX := Kp.mk (And.intro hr (And.intro hag (And.intro hn (And.intro hm hnl))))
  have hrl := hr.len
  have HLn := Kp.mk hrl
  clear hg hr hag hn hlt he hl he0 hm hnl hrl
  go_enter Tryd.func34, Tryd.ntmps34
  go_wp2_with fail
  refine HS.out.mono ?_
  rintro e w1 ⟨hj, hb, hu⟩
  cases hrd : uvRead (bs.drop i) with
  | none =>
    rw [hrd] at hu
    obtain ⟨v, rfl, hv⟩ := hu
    obtain ⟨T, u, rfl⟩ : ∃ T u, v = .iface T u := by
      rcases hv with ⟨_, rfl⟩ | ⟨_, t, _, h⟩
      · exact ⟨_, _, rfl⟩
      · exact h.iface
    have HD := Kp.mk (And.intro hj (And.intro hb (And.intro hrd hv)))
    clear hj hb hrd hv HS
    go_wp2_with fail
    go_ret2
    refine ⟨HD.out.1, HD.out.2.1, ?_⟩
    rcases HD.out.2.2.2 with ⟨h1, h2⟩ | ⟨h1, h2⟩
    · rw [h1, h2]; rfl
    · rw [long_bad h1 HD.out.2.2.1]; exact ⟨_, rfl, h2⟩
  | some p =>
    obtain ⟨x, k⟩ := p
    rw [hrd] at hu
    simp only at hu
    have hne := uv_ne hrd
    by_cases h0 : x = 0 ∧ ze = true
    · rw [if_pos h0] at hu
      obtain ⟨rfl, q1, hq1⟩ := hu
      obtain ⟨rfl, rfl⟩ := h0
      have HD := Kp.mk (And.intro hj (And.intro hb (long_zero (most := most) hne hrd)))
      clear hj hb hrd hne HS hq1
      go_wp2_with fail
      go_ret2
      exact ⟨HD.out.1, HD.out.2.1, by rw [HD.out.2.2]; rfl⟩
    · rw [if_neg h0] at hu
      by_cases hmx : most < x
      · rw [if_pos hmx] at hu
        obtain ⟨v, rfl, hv⟩ := hu
        obtain ⟨T, u, rfl⟩ : ∃ T u, v = .iface T u := by obtain ⟨t, _, h⟩ := hv; exact h.iface
        have HD := Kp.mk (And.intro hj (And.intro hb (And.intro (long_much (ze := ze) hne hrd hmx) hv)))
        clear hj hb hrd hne HS hv h0
        go_wp2_with fail
        go_ret2
        exact ⟨HD.out.1, HD.out.2.1, by rw [HD.out.2.2.1]; exact ⟨_, rfl, HD.out.2.2.2⟩⟩
      · rw [if_neg hmx] at hu
        obtain ⟨rfl, q1, hq1⟩ := hu
        have hxm : x ≤ 33554432 := by have := HX.out.2.2.2.1; omega
        have hmk := mk_bytes_u 62 Tryd.underlying62 x (by omega)
        have HD := Kp.mk (And.intro hb (And.intro hq1 (And.intro hrd (And.intro hne (And.intro h0 hmx)))))
        have hgw : g < w1.heap.size := (Array.getElem?_eq_some_iff.1 hq1).1
        have HGW := Kp.mk hgw
        clear hj hb hrd hne HS h0 hq1
        go_wp2_with fail
        generalize hW : w1.alloc _ = W
        have hbw : Below w1.heap.size w1 W := by rw [← hW]; exact bel_alloc (Below.refl _ _) _
        have hgd : W.heap[w1.heap.size]? = some (.cells (zeros x) 5 (0, 0)) := by rw [← hW]; exact blk_new (Below.refl _ _)
        have hgW := blk_keep HD.out.2.1 hbw
        have hrW := ((HX.out.1.belowB HD.out.1 HX.out.2.1).below hbw)
        have hBW : Below g w W := HD.out.1.trans (hbw.mono (by omega))
        have hel : ((bs.drop i).drop k) = bs.drop (i + k) := by rw [List.drop_drop]
        have hdl : (bs.drop i).length = n - i := by rw [List.length_drop, HLn.out]
        have hk := (uvRead_some HD.out.2.2.1).2.1
        have heW : ∀ w', Below g W w' → RdErrs (.iface Te ue) (.iface Tu uu) vo vn w' := fun w' h => HE.out w' (hBW.trans h)
        by_cases hx0 : x = 0
        · subst hx0
          have HF := Kp.mk (fullNone_calls g w1.heap.size W)
          have HR := Kp.mk (And.intro (long_read HD.out.2.2.2.1 HD.out.2.2.1 HD.out.2.2.2.2.2 (fun h => HD.out.2.2.2.2.1 ⟨h.2, h.1⟩) (fun h => by omega) (by omega)) (And.intro hgW hBW))
          have HZ := Kp.mk (rd_of_zero (xs := (bs.drop i).drop k) hgd)
          clear hW hbw hgd hgW hrW hBW hel hdl hk heW hmk
          refine HF.out.mono ?_
          rintro e w' ⟨rfl, rfl⟩
          go_wp2_with fail
          go_ret2
          refine ⟨⟨_, _, HR.out.2.1⟩, HR.out.2.2, ?_⟩
          rw [HR.out.1]
          exact ⟨⟨_, _, rfl, HZ.out⟩, _, HR.out.2.1⟩
        · by_cases hall : i + k + x ≤ n
          · have HF := Kp.mk (fullAll_calls g ga w1.heap.size n c x (i + k) q1 bs W hgW hrW HX.out.2.1 hgw hgd (by omega) hall HX.out.2.2.1)
            have HR := Kp.mk (And.intro (long_read HD.out.2.2.2.1 HD.out.2.2.1 HD.out.2.2.2.2.2 (fun h => HD.out.2.2.2.2.1 ⟨h.2, h.1⟩) (fun h => by omega) (by omega)) hBW)
            rw [hel] at HR
            have hlen : ((bs.drop (i + k)).take x).length = x := by rw [List.length_take, List.length_drop, HLn.out]; omega
            have HLE := Kp.mk hlen
            clear hW hbw hgd hgW hrW hBW hel hdl hk heW hmk hlen hall hx0
            refine HF.out.mono ?_
            rintro e w2 ⟨⟨rfl, h1, h2⟩, h3⟩
            have HO := Kp.mk (And.intro h1 (And.intro h2 (HR.out.2.trans h3)))
            clear h1 h2 h3 HF
            go_wp2_with fail
            go_ret2
            refine ⟨⟨_, _, HO.out.1⟩, HO.out.2.2, ?_⟩
            rw [HR.out.1]
            refine ⟨⟨some ⟨w1.heap.size, 0, none⟩, x, ?_, ?_⟩, _, by rw [← Nat.add_assoc]; exact HO.out.1⟩
            · rw [HLE.out]; rfl
            · rw [HLE.out]; exact HO.out.2.1
          · have hki : ¬ k = (bs.drop i).length := fun h => HX.out.2.2.2.2 (long_left HD.out.2.2.2.1 HD.out.2.2.1 HD.out.2.2.2.2.2 (fun h => HD.out.2.2.2.2.1 ⟨h.2, h.1⟩) ⟨by omega, h⟩)
            have HF := Kp.mk (fullLess_calls g ga w1.heap.size n c x (n - (i + k)) (i + k) q1 bs (.iface Te ue) (.iface Tu uu) vo vn W hgW hrW HX.out.2.1 hgw hgd (by omega) (by omega) (by omega) (by omega) HX.out.2.2.1 heW)
            have HR := Kp.mk (And.intro (long_less HD.out.2.2.2.1 HD.out.2.2.1 HD.out.2.2.2.2.2 (fun h => HD.out.2.2.2.2.1 ⟨h.2, h.1⟩) (fun h => hki h.2) (by omega)) hBW)
            clear hW hbw hgd hgW hrW hBW hel hdl hk heW hmk hall hx0 hki
            refine HF.out.mono ?_
            rintro e w2 ⟨⟨rfl, h1⟩, h3⟩
            have HO := Kp.mk (And.intro h1 (And.intro (HR.out.2.trans h3) (HE.out _ (HR.out.2.trans h3)).ueofN))
            clear h1 h3 HF
            go_wp2_with fail
            go_ret2
            obtain ⟨q2, hq2⟩ := HO.out.1
            refine ⟨⟨_, _, hq2⟩, HO.out.2.1, ?_⟩
            rw [HR.out.1]
            exact ⟨_, rfl, HO.out.2.2⟩

end Go.Proofs.YtdppnlomhlnbkaaDoor
