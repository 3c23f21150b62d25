/- The walks of the laws about varints. -/
import Derived.Test.YtpagaagghpopiaaDoorUv
namespace Go.Proofs.YtpagaagghpopiaaDoor
open Go.RowKit

theorem uv300 : Lib.uvarint 300 = [172, 2] := by
  rw [Lib.uvarint_big (by omega), Lib.uvarint_small (by omega)]; decide

theorem strB_toList (bs : List UInt8) : (strB bs).toList = bs := by
  rw [ByteArray.toList_eq]; simp [strB]

theorem bl_append (a b : ByteArray) : bl (a ++ b) = bl a ++ bl b := by
  simp [bl]

set_option maxHeartbeats 800000 in
/-- laws.uvOne. -/
theorem uvOne_calls (w : World) (he : UvErrs w) :
    Calls Tryd.prog 15 #[] w fun e w' => e = .returned (.bool true) ∧ Below w.heap.size w w' := by
  have HE := Kp.mk he
  have HP := Kp.mk (fun w => uvPut_calls 300 w (by omega))
  have hq : (strB [172, 2]).toList = [172, 2] := strB_toList _
  rw [uv300] at HP
  clear he
  go_enter Tryd.func15, Tryd.ntmps15
  go_wp2_with fail
  refine (uvRead_calls ⟨#[172, 2]⟩ _ (by decide) HE.out).mono ?_
  rintro e w1 ⟨hu, hb⟩
  have hr : uvRead (bl ⟨#[172, 2]⟩) = some (300, 2) := by decide
  rw [hr] at hu
  obtain rfl : e = _ := hu
  have HB := Kp.mk hb
  clear hb hr HE
  go_wp2_with fail
  refine (HP.out _).mono ?_
  rintro e w2 ⟨rfl, hb⟩
  have HB2 := Kp.mk (bel_then HB.out hb)
  clear hb HB HP
  go_wp2_with fail
  go_ret
  exact ⟨rfl, HB2.out⟩

set_option maxHeartbeats 800000 in
set_option maxRecDepth 100000 in
/-- laws.FnUvBack. -/
theorem uvBack_walk (x : Nat) (s : ByteArray) (w : World) (hx : x < 2 ^ 64) (hs : s.size ≤ 9223372036854775807) (he : UvErrs w) :
    Calls Tryd.prog 4 #[.int .u64 x, .string s] w fun e w' => e = .returned (.bool true) ∧ Below w.heap.size w w' := by
  by_cases h1 : 2147483647 < s.size
  · go_enter Tryd.func4, Tryd.ntmps4
    go_wp2_with fail
    go_ret
    exact ⟨rfl, Below.refl _ _⟩
  by_cases h2 : 4096 < s.size
  · go_enter Tryd.func4, Tryd.ntmps4
    go_wp2_with fail
    go_ret
    exact ⟨rfl, Below.refl _ _⟩
  have HP := Kp.mk (fun w => uvPut_calls x w hx)
  have HE := Kp.mk he
  by_cases h3 : x < 9223372036854775808
  · have hl := uvarint_lt63 h3
    have hr : Kp (uvRead (bl (strB (Lib.uvarint x) ++ s)) = some (x, (Lib.uvarint x).length)) := ⟨by rw [bl_append, bl_strB]; exact uvRead_uvarint _ hl⟩
    have hsz : Kp ((strB (Lib.uvarint x)).size = (Lib.uvarint x).length) := ⟨strB_size _⟩
    have hsum : (strB (Lib.uvarint x) ++ s).size < 2 ^ 63 := by rw [ByteArray.size_append, strB_size]; omega
    have HR := Kp.mk (fun w he => uvRead_calls (strB (Lib.uvarint x) ++ s) w hsum he)
    rw [hr.out] at HR
    have hcat : (strB (Lib.uvarint x)).size + s.size ≤ 9223372036854775807 := by rw [strB_size]; omega
    generalize Lib.uvarint x = ux at *
    generalize strB ux = su at *
    have hge : decide ((9223372036854775808 : Int) ≤ (x : Int)) = false := decide_eq_false (by omega)
    clear hx he hsum hr h3
    go_enter Tryd.func4, Tryd.ntmps4
    go_wp2_with fail
    refine (HP.out _).mono ?_
    rintro e w1 ⟨rfl, hb⟩
    have HE1 := Kp.mk (HE.out.below hb)
    have HB := Kp.mk hb
    clear HP HE hb
    go_wp2_with fail
    refine (HR.out _ HE1.out).mono ?_
    rintro e w2 ⟨hu, hb⟩
    obtain rfl : e = _ := hu
    have HB2 := Kp.mk (bel_then HB.out hb)
    clear HR HE1 HB hb
    have hq : ((ux.length : Int) == (su.size : Int)) = true := beq_iff_eq.2 (by rw [hsz.out])
    have hq2 : decide ((ux.length : Int) ≤ 9) = true := decide_eq_true (by omega)
    go_wp2_with fail
    go_ret
    exact ⟨rfl, HB2.out⟩
  · have hl := uvarint_ge63 (x := x) (by omega) hx
    have hr : Kp (uvRead (bl (strB (Lib.uvarint x) ++ s)) = none) := ⟨by rw [bl_append, bl_strB]; exact uvRead_long _ (by omega)⟩
    have hsz : Kp ((strB (Lib.uvarint x)).size = 10) := ⟨by rw [strB_size, hl]⟩
    have hsum : (strB (Lib.uvarint x) ++ s).size < 2 ^ 63 := by rw [ByteArray.size_append, strB_size]; omega
    have HR := Kp.mk (fun w he => uvRead_calls (strB (Lib.uvarint x) ++ s) w hsum he)
    rw [hr.out] at HR
    have hcat : (strB (Lib.uvarint x)).size + s.size ≤ 9223372036854775807 := by rw [strB_size]; omega
    generalize Lib.uvarint x = ux at *
    generalize strB ux = su at *
    have hge : decide ((9223372036854775808 : Int) ≤ (x : Int)) = true := decide_eq_true (by omega)
    clear hx he hsum hr h3 hl
    go_enter Tryd.func4, Tryd.ntmps4
    go_wp2_with fail
    refine (HP.out _).mono ?_
    rintro e w1 ⟨rfl, hb⟩
    have HE1 := Kp.mk (HE.out.below hb)
    have HB := Kp.mk hb
    clear HP HE hb
    go_wp2_with fail
    refine (HR.out _ HE1.out).mono ?_
    rintro e w2 ⟨⟨y, n, rfl⟩, hb⟩
    have HE2 := Kp.mk (HE1.out.below hb)
    have HB2 := Kp.mk (bel_then HB.out hb)
    clear HR HE1 HB hb
    have hq : ((su.size : Int) == 10) = true := beq_iff_eq.2 (by rw [hsz.out]; rfl)
    go_wp2_with fail
    refine (uvOne_calls _ HE2.out).mono ?_
    rintro e w3 ⟨rfl, hb⟩
    have HB3 := Kp.mk (bel_then HB2.out hb)
    clear HB2 hb HE2
    go_wp2_with fail
    go_ret
    exact ⟨rfl, HB3.out⟩

end Go.Proofs.YtpagaagghpopiaaDoor
