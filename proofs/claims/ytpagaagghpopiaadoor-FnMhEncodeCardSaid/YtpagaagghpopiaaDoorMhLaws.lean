/- The walks of the laws FnMhEncode and FnMhRead. -/
import Derived.Test.YtpagaagghpopiaaDoorSpecMb
import Derived.Test.YtpagaagghpopiaaDoorMhOne
import Derived.Test.YtpagaagghpopiaaDoorSpecUv
import Derived.Test.YtpagaagghpopiaaDoorUvLaid
namespace Go.Proofs.YtpagaagghpopiaaDoor
open Go.RowKit

set_option maxHeartbeats 1600000 in
set_option maxRecDepth 100000 in
/-- laws.mhOne. -/
theorem mhOne_calls (w : World) (he : MhErrs w) :
    Calls Tryd.prog 19 #[] w fun e w' => e = .returned (.bool true) ∧ Below w.heap.size w w' := by
  have h1 := implDec_calls ⟨#[0, 1, 97]⟩ w (by decide) he
  rw [show bl ⟨#[0, 1, 97]⟩ = [0, 1, 97] from rfl] at h1
  have h2 : ∀ w, Calls Tryd.prog 17 #[.int .u64 0, .string ⟨#[97]⟩] w fun e w' => e = .returned (.string ⟨#[0, 1, 97]⟩) ∧ Below w.heap.size w w' := by
    intro w
    have h := implEnc_calls 0 ⟨#[97]⟩ w (by decide) (by decide)
    rw [show strB (mhBytes 0 (bl ⟨#[97]⟩)) = ⟨#[0, 1, 97]⟩ by decide +kernel] at h
    exact h
  have hm : mhRead [0, 1, 97] = some (0, [97], 3) := by decide +kernel
  have H1 := Kp.mk h1
  have H2 := Kp.mk h2
  have HM := Kp.mk hm
  clear h1 h2 hm he
  go_enter Tryd.func19, Tryd.ntmps19
  go_wp2_with fail
  refine H1.out.mono ?_
  rintro e w1 ⟨hu, hb⟩
  unfold MdEnd at hu; rw [HM.out] at hu; simp only at hu; rw [if_pos (show 3 = ([0, 1, 97] : List UInt8).length from rfl)] at hu
  obtain rfl := hu
  rw [show strB [97] = ⟨#[97]⟩ from rfl]
  have HB := Kp.mk hb
  clear hb H1 HM
  go_wp2_with fail
  refine (H2.out _).mono ?_
  rintro e w2 ⟨rfl, hb⟩
  have HB2 := Kp.mk hb
  clear hb
  go_wp2
  go_ret
  exact ⟨rfl, bel_then HB.out HB2.out⟩

/-- What the conditions list gives. -/
theorem mhErrs_of {W : World} {l : List (String × DataW Unit)} (hp : l.all (fun x => x.2.handleName?.isNone) = true) (h : laidMetH Tryd.prog l W)
    (h1 : ("pub-droshky/pub/varint.ErrOverflow", Rows.laid_pub_droshky_pub_varint_ErrOverflow) ∈ l) (h2 : ("pub-droshky/pub/varint.ErrNotMinimal", Rows.laid_pub_droshky_pub_varint_ErrNotMinimal) ∈ l) (h3 : ("pub-droshky/pub/varint.ErrUnderflow", Rows.laid_pub_droshky_pub_varint_ErrUnderflow) ∈ l)
    (h4 : ("pub-droshky/pub/multihash.ErrTooShort", Rows.laid_pub_droshky_pub_multihash_ErrTooShort) ∈ l) : MhErrs W :=
  ⟨uvErrs_of hp h h1 h2 h3, laid_iface hp h h4 (g := 5) (t := 54) (by kernel_rfl) (by kernel_rfl) Tryd.underlying54⟩

set_option maxHeartbeats 1600000 in
set_option maxRecDepth 100000 in
/-- laws.FnMhEncode. -/
theorem mhEncode_walk (x : Nat) (s : ByteArray) (w : World) (hx : x < 2 ^ 64) (hs : s.size ≤ 9223372036854775807) (he : MhErrs w) :
    Calls Tryd.prog 6 #[.int .u64 x, .string s] w fun e w' => e = .returned (.bool true) ∧ Below w.heap.size w w' := by
  by_cases h1 : s.size ≤ 2147483647
  · by_cases h2 : x < 9223372036854775808
    · by_cases h3 : s.size ≤ 4096
      · have HE := Kp.mk he
        have HO := Kp.mk mhOne_calls
        have HC := Kp.mk (fun w => implEnc_calls x s w hx h1)
        have HS := Kp.mk (fun w => specMb_calls x s w hx (by omega))
        have q2 : decide ((9223372036854775808 : Int) ≤ x) = false := decide_eq_false (by omega)
        clear hx h2 he hs
        go_enter Tryd.func6, Tryd.ntmps6
        go_wp2_with fail
        refine (HC.out _).mono ?_
        rintro e w1 ⟨rfl, hb⟩
        have HB1 := Kp.mk hb
        clear hb
        go_wp2_with fail
        refine (HS.out _).mono ?_
        rintro e w2 ⟨rfl, hb⟩
        have HB2 := Kp.mk (bel_then HB1.out hb)
        clear hb
        go_wp2_with fail
        refine (HO.out _ (HE.out.below HB2.out)).mono ?_
        rintro e w3 ⟨rfl, hb⟩
        have HB3 := Kp.mk (bel_then HB2.out hb)
        clear hb
        go_wp2
        go_ret
        exact ⟨rfl, HB3.out⟩
      · have q2 : decide ((9223372036854775808 : Int) ≤ x) = false := decide_eq_false (by omega)
        clear hx h2
        go_enter Tryd.func6, Tryd.ntmps6
        go_wp2
        go_ret
        exact ⟨rfl, Below.refl _ _⟩
    · have q2 : decide ((9223372036854775808 : Int) ≤ x) = true := decide_eq_true (by omega)
      clear hx h2
      go_enter Tryd.func6, Tryd.ntmps6
      go_wp2
      go_ret
      exact ⟨rfl, Below.refl _ _⟩
  · clear hx
    go_enter Tryd.func6, Tryd.ntmps6
    go_wp2
    go_ret
    exact ⟨rfl, Below.refl _ _⟩

set_option maxHeartbeats 1600000 in
set_option maxRecDepth 100000 in
/-- laws.FnMhRead. -/
theorem mhRead_walk (s : ByteArray) (w : World) (hs : s.size ≤ 9223372036854775807) (he : MhErrs w) :
    Calls Tryd.prog 7 #[.string s] w fun e w' => e = .returned (.bool true) ∧ Below w.heap.size w w' := by
  by_cases h1 : s.size ≤ 2147483647
  · by_cases h3 : s.size ≤ 4096
    · have HE := Kp.mk he
      have HO := Kp.mk mhOne_calls
      have HS := Kp.mk (fun w => specMh_calls s w h1)
      have HC := Kp.mk (fun w he => mhRd_calls s w h1 he)
      clear he hs
      go_enter Tryd.func7, Tryd.ntmps7
      go_wp2_with fail
      refine (HS.out _).mono ?_
      rintro e w1 ⟨hu, hb⟩
      have HB1 := Kp.mk hb
      unfold SmEnd at hu
      clear hb
      cases hm : mhRead (bl s) with
      | none =>
        have HM := Kp.mk hm
        rw [hm] at hu
        simp only at hu
        subst hu
        clear hm
        go_wp2_with fail
        refine (HC.out _ (HE.out.below HB1.out)).mono ?_
        rintro e w2 ⟨hu, hb⟩
        have HB2 := Kp.mk (bel_then HB1.out hb)
        clear hb
        unfold MrEnd at hu
        rw [HM.out] at hu
        obtain ⟨n, rfl⟩ := hu
        go_wp2_with fail
        refine (HO.out _ (HE.out.below HB2.out)).mono ?_
        rintro e w3 ⟨rfl, hb⟩
        have HB3 := Kp.mk (bel_then HB2.out hb)
        clear hb
        go_wp2
        go_ret
        exact ⟨rfl, HB3.out⟩
      | some p =>
        obtain ⟨code, d, n⟩ := p
        have HM := Kp.mk hm
        rw [hm] at hu
        simp only at hu
        subst hu
        clear hm
        go_wp2_with fail
        refine (HC.out _ (HE.out.below HB1.out)).mono ?_
        rintro e w2 ⟨hu, hb⟩
        have HB2 := Kp.mk (bel_then HB1.out hb)
        clear hb
        unfold MrEnd at hu
        rw [HM.out] at hu
        simp only at hu
        subst hu
        go_wp2_with fail
        refine (HO.out _ (HE.out.below HB2.out)).mono ?_
        rintro e w3 ⟨rfl, hb⟩
        have HB3 := Kp.mk (bel_then HB2.out hb)
        clear hb
        go_wp2
        go_ret
        exact ⟨rfl, HB3.out⟩
    · go_enter Tryd.func7, Tryd.ntmps7
      go_wp2
      go_ret
      exact ⟨rfl, Below.refl _ _⟩
  · go_enter Tryd.func7, Tryd.ntmps7
    go_wp2
    go_ret
    exact ⟨rfl, Below.refl _ _⟩

end Go.Proofs.YtpagaagghpopiaaDoor
