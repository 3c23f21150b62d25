/- The walk of laws.FnC2Full. -/
import Derived.Test.YtdppnlomhlnbkaaC2Bits
import Derived.Handy
namespace Go.Proofs.Ytdppnlomhlnbkaa
open Go.RowKit

/-- What the law's last line leaves in its slots. -/
def fuR (a b c d e x z y : Nat) (f yes : Bool) (s : ByteArray) (j : Nat) (v : Value) (_ : World) : Prop :=
  match j with
  | 0 => v = hdV a b c d e
  | 1 => v = .bool f
  | 2 => v = hdV a b c d e
  | 3 => v = .bool f
  | 4 => v = .bool true
  | 5 => v = .bool true
  | 6 => v = hdV x b c d e
  | 7 => v = hdV a b c d e
  | 8 => v = .bool yes
  | 9 => v = hdV x b c d e
  | 10 => v = .bool true
  | 11 => v = .bool true
  | 12 => v = .bool true
  | 13 => v = hdV x b c d e
  | 14 => v = .bool yes
  | 15 => v = .bool yes
  | 16 => v = .bool true
  | 17 => v = .bool true
  | 18 => v = .bool true
  | 19 => v = .string s
  | 20 => v = .int .i64 40
  | 21 => v = .bool true
  | 22 => v = .bool true
  | 23 => v = .bool true
  | 24 => v = .string s
  | 25 => v = .int .u8 (z : Int)
  | 26 => v = .int .u8 (y : Int)
  | 27 => v = .bool yes
  | 28 => v = .bool yes
  | 29 => v = .bool true
  | 30 => v = .bool true
  | 31 => v = .bool true
  | _ => True

theorem hdB_len (a b c d e : Nat) : (hdB a b c d e).length = 40 := by simp only [hdB, List.length_append, Lib.leBytes_length]
theorem hdB_zero (a b c d e : Nat) : (hdB a b c d e)[0]? = some (a % 256).toUInt8 := by
  have h : (Lib.leBytes 8 a)[0]? = some (a % 256).toUInt8 := by simp [Lib.leBytes]
  simp only [hdB, List.append_assoc]
  rw [List.getElem?_append_left (by rw [Lib.leBytes_length]; omega)]
  exact h
theorem bl_at' {s : ByteArray} {k : Nat} (h : k < s.size) {b : UInt8} (hb : (bl s)[k]? = some b) : s[k].toNat = b.toNat := by
  have : (bl s)[k]? = some s[k] := by rw [List.getElem?_eq_getElem (by rw [bl_length]; exact h)]; rfl
  rw [this] at hb; rw [Option.some.inj hb]
theorem bitB_bitted (yes : Bool) (x : Nat) : bitB (bitted yes x) = yes := by unfold bitB; rw [bitted_and]; cases yes <;> rfl

set_option maxHeartbeats 8000000 in
set_option maxRecDepth 100000 in
/-- laws.FnC2Full. -/
theorem c2Full_walk (a b c d e : Nat) (yes : Bool) (w : World) (ha : a < 2 ^ 64) (hb : b < 2 ^ 64) (hc : c < 2 ^ 64) (hd : d < 2 ^ 64) (he : e < 2 ^ 64) :
    Calls Try.prog 3 #[hdV a b c d e, .bool yes] w fun e' w' => e' = .returned (.bool true) ∧ Below w.heap.size w w' := by
  have hxl := bitted_lt ha yes
  have HT := Kp.mk (fun w => c2SetFull_calls a b c d e yes w ha)
  have HY := Kp.mk (fun w => c2Bytes_calls (bitted yes a) b c d e w hxl hb hc hd he)
  have HF := Kp.mk (fun w => c2Full_calls a b c d e w ha)
  have HS := Kp.mk (fun w => specFull_calls a b c d e w ha)
  have HW := Kp.mk (fun w => specSet_calls a b c d e yes w ha)
  have HX := Kp.mk (fun w => c2Full_calls (bitted yes a) b c d e w hxl)
  rw [bitB_bitted] at HX
  have hsz : (strB (hdB (bitted yes a) b c d e)).size = 40 := by rw [strB_size, hdB_len]
  have hs0 : ∀ h : 0 < (strB (hdB (bitted yes a) b c d e)).size, ((strB (hdB (bitted yes a) b c d e))[0]'h).toNat = bitted yes a % 256 := fun h => by
    rw [bl_at' h (by rw [bl_strB]; exact hdB_zero _ _ _ _ _), Nat.toUInt8, UInt8.toNat_ofNat', Nat.mod_eq_of_lt (by omega)]
  have han : bits .and .u8 ((bitted yes a % 256 : Nat) : Int) 128 = ((bitted yes a &&& 128 : Nat) : Int) := by
    have := (bits_nat .u8 8 (by decide) wraps_u8 (bitted yes a % 256) 128 (by omega) (by omega)).1
    rw [low_and] at this
    exact this
  have hne : (((bitted yes a &&& 128 : Nat) : Int) != 0) = yes := by rw [bitted_and]; cases yes <;> rfl
  generalize bitted yes a &&& 128 = y at *
  generalize bitted yes a % 256 = z at *
  generalize strB (hdB (bitted yes a) b c d e) = s at *
  generalize bitted yes a = x at *
  generalize bitB a = f at *
  have KS := Kp.mk (And.intro hsz (And.intro hs0 (And.intro han hne)))
  clear ha hb hc hd he hxl hs0 han hne hsz
  unfold hdV at *
  go_enter Try.func3, Try.ntmps3
  go_wp2_with fail
  refine (HT.out _).mono ?_
  rintro e1 w1 ⟨rfl, hb⟩
  have HG1 := Kp.mk (blk_new hb)
  have HB1 := Kp.mk (bel_new hb)
  clear hb HT
  go_wp2_with fail
  have HG2 := Kp.mk (fun ob => blk_keep HG1.out (bel_alloc (Below.refl _ _) ob))
  refine (HY.out _).mono ?_
  rintro e1 w2 ⟨rfl, hb⟩
  have HG := Kp.mk (blk_keep HG1.out (bel_new hb))
  have HK := Kp.mk (blk_new hb)
  have HB2 := Kp.mk (bel_then HB1.out (bel_new hb))
  clear hb HY HG1 HG2 HB1
  go_wp2_with fail
  refine wp_region_growG (fun u u' => Below u.heap.size u u') (fun _ => Below.refl _ _) (fun _ _ _ h k => bel_then h k) (by kernel_rfl) 32 (by decide) (apart_of (by kernel_rfl)) (by kernel_rfl) (fuR a b c d e x z y f yes s) (fun _ _ _ _ h _ => by unfold fuR at *; exact h) ?_ ?_
  · intro j hj o ho vs w5 hb hpre
    have hgh := blk_keep HG.out (bel_then (bel_drew (Below.refl _ _)) hb)
    have hgx := blk_keep HK.out (bel_then (bel_drew (Below.refl _ _)) hb)
    rcases j with _ | _ | _ | _ | _ | _ | _ | _ | _ | _ | _ | _ | _ | _ | _ | _ | _ | _ | _ | _ | _ | _ | _ | _ | _ | _ | _ | _ | _ | _ | _ | _ | j
    · obtain rfl := Option.some.inj ho
      refine .inl ⟨rfl, ?_⟩
      have c0 := blk_cell hgh 0
      have c1 := blk_cell hgh 1
      have c2 := blk_cell hgh 2
      have c3 := blk_cell hgh 3
      have c4 := blk_cell hgh 4
      simp only [canon, List.range, List.range.loop, List.foldl]
      go_simp
      exact ⟨rfl, Below.refl _ _⟩
    · obtain rfl := Option.some.inj ho
      have e0 : vs 0 = _ := hpre 0 (by decide) rfl
      refine .inl ⟨rfl, ?_⟩
      simp only [canon, List.range, List.range.loop, List.foldl]
      go_simp
      refine (HF.out _).mono ?_
      rintro e6 w6 ⟨rfl, hb6⟩
      exact ⟨rfl, hb6⟩
    · obtain rfl := Option.some.inj ho
      refine .inl ⟨rfl, ?_⟩
      have c0 := blk_cell hgh 0
      have c1 := blk_cell hgh 1
      have c2 := blk_cell hgh 2
      have c3 := blk_cell hgh 3
      have c4 := blk_cell hgh 4
      simp only [canon, List.range, List.range.loop, List.foldl]
      go_simp
      exact ⟨rfl, Below.refl _ _⟩
    · obtain rfl := Option.some.inj ho
      have e2 : vs 2 = _ := hpre 2 (by decide) rfl
      refine .inl ⟨rfl, ?_⟩
      simp only [canon, List.range, List.range.loop, List.foldl]
      go_simp
      refine (HS.out _).mono ?_
      rintro e6 w6 ⟨rfl, hb6⟩
      exact ⟨rfl, hb6⟩
    · obtain rfl := Option.some.inj ho
      have e1 : vs 1 = _ := hpre 1 (by decide) rfl
      have e3 : vs 3 = _ := hpre 3 (by decide) rfl
      refine .inl ⟨rfl, ?_⟩
      simp only [canon, List.range, List.range.loop, List.foldl]
      go_simp
      exact ⟨rfl, Below.refl _ _⟩
    · obtain rfl := Option.some.inj ho
      have e4 : vs 4 = _ := hpre 4 (by decide) rfl
      refine .inl ⟨rfl, ?_⟩
      simp only [canon, List.range, List.range.loop, List.foldl]
      go_simp
      exact ⟨rfl, Below.refl _ _⟩
    · obtain rfl := Option.some.inj ho
      have e5 : vs 5 = _ := hpre 5 (by decide) rfl
      refine .inl ⟨wanted_of rfl rfl (Nat.le_of_ble_eq_true rfl) (by decide) (apart_of (by kernel_rfl)) e5, ?_⟩
      have c0 := blk_cell hgx 0
      have c1 := blk_cell hgx 1
      have c2 := blk_cell hgx 2
      have c3 := blk_cell hgx 3
      have c4 := blk_cell hgx 4
      simp only [canon, List.range, List.range.loop, List.foldl]
      go_simp
      exact ⟨rfl, Below.refl _ _⟩
    · obtain rfl := Option.some.inj ho
      have e5 : vs 5 = _ := hpre 5 (by decide) rfl
      refine .inl ⟨wanted_of rfl rfl (Nat.le_of_ble_eq_true rfl) (by decide) (apart_of (by kernel_rfl)) e5, ?_⟩
      have c0 := blk_cell hgh 0
      have c1 := blk_cell hgh 1
      have c2 := blk_cell hgh 2
      have c3 := blk_cell hgh 3
      have c4 := blk_cell hgh 4
      simp only [canon, List.range, List.range.loop, List.foldl]
      go_simp
      exact ⟨rfl, Below.refl _ _⟩
    · obtain rfl := Option.some.inj ho
      have e5 : vs 5 = _ := hpre 5 (by decide) rfl
      refine .inl ⟨wanted_of rfl rfl (Nat.le_of_ble_eq_true rfl) (by decide) (apart_of (by kernel_rfl)) e5, ?_⟩
      simp only [canon, List.range, List.range.loop, List.foldl]
      go_simp
      exact ⟨rfl, Below.refl _ _⟩
    · obtain rfl := Option.some.inj ho
      have e5 : vs 5 = _ := hpre 5 (by decide) rfl
      have e7 : vs 7 = _ := hpre 7 (by decide) rfl
      have e8 : vs 8 = _ := hpre 8 (by decide) rfl
      refine .inl ⟨wanted_of rfl rfl (Nat.le_of_ble_eq_true rfl) (by decide) (apart_of (by kernel_rfl)) e5, ?_⟩
      simp only [canon, List.range, List.range.loop, List.foldl]
      go_simp
      refine (HW.out _).mono ?_
      rintro e6 w6 ⟨rfl, hb6⟩
      exact ⟨rfl, hb6⟩
    · obtain rfl := Option.some.inj ho
      have e5 : vs 5 = _ := hpre 5 (by decide) rfl
      have e6 : vs 6 = _ := hpre 6 (by decide) rfl
      have e9 : vs 9 = _ := hpre 9 (by decide) rfl
      refine .inl ⟨wanted_of rfl rfl (Nat.le_of_ble_eq_true rfl) (by decide) (apart_of (by kernel_rfl)) e5, ?_⟩
      simp only [canon, List.range, List.range.loop, List.foldl]
      go_simp
      exact ⟨rfl, Below.refl _ _⟩
    · obtain rfl := Option.some.inj ho
      have e5 : vs 5 = _ := hpre 5 (by decide) rfl
      have e10 : vs 10 = _ := hpre 10 (by decide) rfl
      refine .inl ⟨rfl, ?_⟩
      simp only [canon, List.range, List.range.loop, List.foldl]
      go_simp
      exact ⟨rfl, Below.refl _ _⟩
    · obtain rfl := Option.some.inj ho
      have e11 : vs 11 = _ := hpre 11 (by decide) rfl
      refine .inl ⟨rfl, ?_⟩
      simp only [canon, List.range, List.range.loop, List.foldl]
      go_simp
      exact ⟨rfl, Below.refl _ _⟩
    · obtain rfl := Option.some.inj ho
      have e12 : vs 12 = _ := hpre 12 (by decide) rfl
      refine .inl ⟨wanted_of rfl rfl (Nat.le_of_ble_eq_true rfl) (by decide) (apart_of (by kernel_rfl)) e12, ?_⟩
      have c0 := blk_cell hgx 0
      have c1 := blk_cell hgx 1
      have c2 := blk_cell hgx 2
      have c3 := blk_cell hgx 3
      have c4 := blk_cell hgx 4
      simp only [canon, List.range, List.range.loop, List.foldl]
      go_simp
      exact ⟨rfl, Below.refl _ _⟩
    · obtain rfl := Option.some.inj ho
      have e12 : vs 12 = _ := hpre 12 (by decide) rfl
      have e13 : vs 13 = _ := hpre 13 (by decide) rfl
      refine .inl ⟨wanted_of rfl rfl (Nat.le_of_ble_eq_true rfl) (by decide) (apart_of (by kernel_rfl)) e12, ?_⟩
      simp only [canon, List.range, List.range.loop, List.foldl]
      go_simp
      refine (HX.out _).mono ?_
      rintro e6 w6 ⟨rfl, hb6⟩
      exact ⟨rfl, hb6⟩
    · obtain rfl := Option.some.inj ho
      have e12 : vs 12 = _ := hpre 12 (by decide) rfl
      refine .inl ⟨wanted_of rfl rfl (Nat.le_of_ble_eq_true rfl) (by decide) (apart_of (by kernel_rfl)) e12, ?_⟩
      simp only [canon, List.range, List.range.loop, List.foldl]
      go_simp
      exact ⟨rfl, Below.refl _ _⟩
    · obtain rfl := Option.some.inj ho
      have e12 : vs 12 = _ := hpre 12 (by decide) rfl
      have e14 : vs 14 = _ := hpre 14 (by decide) rfl
      have e15 : vs 15 = _ := hpre 15 (by decide) rfl
      refine .inl ⟨wanted_of rfl rfl (Nat.le_of_ble_eq_true rfl) (by decide) (apart_of (by kernel_rfl)) e12, ?_⟩
      simp only [canon, List.range, List.range.loop, List.foldl]
      go_simp
      exact ⟨rfl, Below.refl _ _⟩
    · obtain rfl := Option.some.inj ho
      have e12 : vs 12 = _ := hpre 12 (by decide) rfl
      have e16 : vs 16 = _ := hpre 16 (by decide) rfl
      refine .inl ⟨rfl, ?_⟩
      simp only [canon, List.range, List.range.loop, List.foldl]
      go_simp
      exact ⟨rfl, Below.refl _ _⟩
    · obtain rfl := Option.some.inj ho
      have e17 : vs 17 = _ := hpre 17 (by decide) rfl
      refine .inl ⟨rfl, ?_⟩
      simp only [canon, List.range, List.range.loop, List.foldl]
      go_simp
      exact ⟨rfl, Below.refl _ _⟩
    · obtain rfl := Option.some.inj ho
      have e18 : vs 18 = _ := hpre 18 (by decide) rfl
      refine .inl ⟨wanted_of rfl rfl (Nat.le_of_ble_eq_true rfl) (by decide) (apart_of (by kernel_rfl)) e18, ?_⟩
      simp only [canon, List.range, List.range.loop, List.foldl]
      go_simp
      exact ⟨rfl, Below.refl _ _⟩
    · obtain rfl := Option.some.inj ho
      have e18 : vs 18 = _ := hpre 18 (by decide) rfl
      have e19 : vs 19 = _ := hpre 19 (by decide) rfl
      refine .inl ⟨wanted_of rfl rfl (Nat.le_of_ble_eq_true rfl) (by decide) (apart_of (by kernel_rfl)) e18, ?_⟩
      have hz := KS.out.1
      simp only [canon, List.range, List.range.loop, List.foldl]
      go_simp
      exact ⟨rfl, Below.refl _ _⟩
    · obtain rfl := Option.some.inj ho
      have e18 : vs 18 = _ := hpre 18 (by decide) rfl
      have e20 : vs 20 = _ := hpre 20 (by decide) rfl
      refine .inl ⟨wanted_of rfl rfl (Nat.le_of_ble_eq_true rfl) (by decide) (apart_of (by kernel_rfl)) e18, ?_⟩
      simp only [canon, List.range, List.range.loop, List.foldl]
      go_simp
      exact ⟨rfl, Below.refl _ _⟩
    · obtain rfl := Option.some.inj ho
      have e18 : vs 18 = _ := hpre 18 (by decide) rfl
      have e21 : vs 21 = _ := hpre 21 (by decide) rfl
      refine .inl ⟨rfl, ?_⟩
      simp only [canon, List.range, List.range.loop, List.foldl]
      go_simp
      exact ⟨rfl, Below.refl _ _⟩
    · obtain rfl := Option.some.inj ho
      have e22 : vs 22 = _ := hpre 22 (by decide) rfl
      refine .inl ⟨rfl, ?_⟩
      simp only [canon, List.range, List.range.loop, List.foldl]
      go_simp
      exact ⟨rfl, Below.refl _ _⟩
    · obtain rfl := Option.some.inj ho
      have e23 : vs 23 = _ := hpre 23 (by decide) rfl
      refine .inl ⟨wanted_of rfl rfl (Nat.le_of_ble_eq_true rfl) (by decide) (apart_of (by kernel_rfl)) e23, ?_⟩
      simp only [canon, List.range, List.range.loop, List.foldl]
      go_simp
      exact ⟨rfl, Below.refl _ _⟩
    · obtain rfl := Option.some.inj ho
      have e23 : vs 23 = _ := hpre 23 (by decide) rfl
      have e24 : vs 24 = _ := hpre 24 (by decide) rfl
      refine .inl ⟨wanted_of rfl rfl (Nat.le_of_ble_eq_true rfl) (by decide) (apart_of (by kernel_rfl)) e23, ?_⟩
      have hz := KS.out.1
      have hs0 := KS.out.2.1 (by omega)
      simp only [canon, List.range, List.range.loop, List.foldl]
      go_simp
      exact ⟨rfl, Below.refl _ _⟩
    · obtain rfl := Option.some.inj ho
      have e23 : vs 23 = _ := hpre 23 (by decide) rfl
      have e25 : vs 25 = _ := hpre 25 (by decide) rfl
      refine .inl ⟨wanted_of rfl rfl (Nat.le_of_ble_eq_true rfl) (by decide) (apart_of (by kernel_rfl)) e23, ?_⟩
      have han := KS.out.2.2.1
      simp only [canon, List.range, List.range.loop, List.foldl]
      go_simp
      exact ⟨rfl, Below.refl _ _⟩
    · obtain rfl := Option.some.inj ho
      have e23 : vs 23 = _ := hpre 23 (by decide) rfl
      have e26 : vs 26 = _ := hpre 26 (by decide) rfl
      refine .inl ⟨wanted_of rfl rfl (Nat.le_of_ble_eq_true rfl) (by decide) (apart_of (by kernel_rfl)) e23, ?_⟩
      have hne := KS.out.2.2.2
      simp only [canon, List.range, List.range.loop, List.foldl]
      go_simp
      exact ⟨rfl, Below.refl _ _⟩
    · obtain rfl := Option.some.inj ho
      have e23 : vs 23 = _ := hpre 23 (by decide) rfl
      refine .inl ⟨wanted_of rfl rfl (Nat.le_of_ble_eq_true rfl) (by decide) (apart_of (by kernel_rfl)) e23, ?_⟩
      simp only [canon, List.range, List.range.loop, List.foldl]
      go_simp
      exact ⟨rfl, Below.refl _ _⟩
    · obtain rfl := Option.some.inj ho
      have e23 : vs 23 = _ := hpre 23 (by decide) rfl
      have e27 : vs 27 = _ := hpre 27 (by decide) rfl
      have e28 : vs 28 = _ := hpre 28 (by decide) rfl
      refine .inl ⟨wanted_of rfl rfl (Nat.le_of_ble_eq_true rfl) (by decide) (apart_of (by kernel_rfl)) e23, ?_⟩
      simp only [canon, List.range, List.range.loop, List.foldl]
      go_simp
      exact ⟨rfl, Below.refl _ _⟩
    · obtain rfl := Option.some.inj ho
      have e23 : vs 23 = _ := hpre 23 (by decide) rfl
      have e29 : vs 29 = _ := hpre 29 (by decide) rfl
      refine .inl ⟨rfl, ?_⟩
      simp only [canon, List.range, List.range.loop, List.foldl]
      go_simp
      exact ⟨rfl, Below.refl _ _⟩
    · obtain rfl := Option.some.inj ho
      have e30 : vs 30 = _ := hpre 30 (by decide) rfl
      refine .inl ⟨rfl, ?_⟩
      simp only [canon, List.range, List.range.loop, List.foldl]
      go_simp
      exact ⟨rfl, Below.refl _ _⟩
    · omega
  · intro vs w5 hb hr
    have e31 : vs 31 = _ := hr 31 (by omega)
    have HB5 := Kp.mk (bel_then HB2.out (bel_then (bel_drew (Below.refl _ _)) hb))
    clear hb hr
    refine wpAny_none (by kernel_rfl) ?_ _
    generalize hA : canon _ _ vs 32 = A
    have h4 : A.tmps[4]? = some (.bool true) := by rw [← hA, canon_get (i := 31) rfl (Nat.le_of_ble_eq_true rfl) 32 (by omega) (apart_of (by kernel_rfl)), e31]
    have hD : A.defers = [] := by rw [← hA, canon_defers]
    clear hA e31
    go_wp2
    refine bodyPost_ret (results_tmp rfl _ _ _) hD ?_
    exact ⟨by rw [Array.getD_eq_getD_getElem?, h4]; rfl, HB5.out⟩

end Go.Proofs.Ytdppnlomhlnbkaa
