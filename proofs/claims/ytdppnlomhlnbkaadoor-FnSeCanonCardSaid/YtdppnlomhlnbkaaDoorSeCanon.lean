/- The walk of laws.FnSeCanon. -/
import Derived.Test.YtdppnlomhlnbkaaDoorSeLaw
import Derived.Test.YtdppnlomhlnbkaaDoorCid0
namespace Go.Proofs.YtdppnlomhlnbkaaDoor
open Go.RowKit

theorem long_inv {bs : List UInt8} {ze : Bool} {most : Nat} {d : List UInt8} {N : Nat} (h : longRead bs ze most = .read d N) : bs.take N = Lib.uvarint d.length ++ d ∧ N ≤ bs.length := by
  unfold longRead at h
  split at h
  · cases h
  · split at h
    · cases h
    · rename_i x k h1
      obtain ⟨e1, e2, _⟩ := uvRead_inv h1
      have hk := (uvRead_some h1).2.1
      split at h
      · cases h
      · split at h
        · cases h
        · split at h
          · cases h
          · split at h
            · cases h
            · simp only [LongR.read.injEq] at h
              obtain ⟨rfl, rfl⟩ := h
              have hl : ((bs.drop k).take x).length = x := by rw [List.length_take, List.length_drop]; omega
              refine ⟨?_, by omega⟩
              have h3 : bs.take k = Lib.uvarint x := by
                conv => lhs; rw [e1]
                rw [List.take_left' e2]
              rw [hl, List.take_add, h3]
theorem head_bl (s : ByteArray) (n : Nat) : bl (s.extract 0 n) = (bl s).take n := by
  rw [bl_extract]; rfl
theorem joined2 (a b : List UInt8) : Lib.uvarint (szSum [strB a, strB b] [strB a, strB b].length) ++ joined [strB a, strB b] [strB a, strB b].length = Lib.uvarint (a ++ b).length ++ (a ++ b) := by
  simp [szSum, joined, strB_size, bl_strB]

/-- impl.LdWrite of an identifier and the data. -/
theorem implLw2_calls (d : List UInt8) (k g : Nat) (t : TypeId) (w : World) (hg : w.heap[g]? = some (.cells #[.string (strB (d.take k)), .string (strB (d.drop k))] t (0, 0))) (_hk : k ≤ d.length) (hd : d.length ≤ 1073741824) :
    Calls Tryd.prog 22 #[.slice (some ⟨g, 0, none⟩) 2 2] w fun e w' => e = .returned (.string (strB (Lib.uvarint d.length ++ d))) ∧ Below w.heap.size w w' := by
  have h := implLw_calls g 2 [strB (d.take k), strB (d.drop k)] t _ w hg (fun j s h => ?_) (by simp) (by simp) (fun s h => ?_)
  · rw [joined2, List.take_append_drop] at h
    exact h
  · match j, h with
    | 0, h => simp at h; subst h; rfl
    | 1, h => simp at h; subst h; rfl
  · simp at h
    rcases h with rfl | rfl
    · rw [strB_size, List.length_take]; omega
    · rw [strB_size, List.length_drop]; omega

/-- impl.CdBytes of an identifier that is read. -/
theorem cdByRead_calls (bs : List UInt8) (v codec code n : Nat) (d : List UInt8) (w : World) (h : cdRead bs = some (v, codec, code, d, n)) (hl : bs.length ≤ 1073741824) (he : MhErrs w) :
    Calls Tryd.prog 13 #[.agg #[.int .u64 v, .int .u64 codec, .int .u64 code, .string (strB d)]] w fun e w' => e = .returned (.tuple #[.string (strB (bs.take n)), .bool true]) ∧ Below w.heap.size w w' := by
  unfold cdRead at h
  split at h
  · rename_i hz
    split at h
    · cases h
    · simp only [Option.some.injEq, Prod.mk.injEq] at h
      obtain ⟨rfl, rfl, rfl, rfl, rfl⟩ := h
      rw [cd0_shape hz (by omega)]
      have h := cdBy0_calls (strB ((bs.drop 2).take 32)) w (by rw [strB_size, List.length_take, List.length_drop]; omega) he
      rw [bl_strB] at h
      exact h
  · split at h
    · cases h
    · rename_i v' k h1
      split at h
      · rename_i hv
        subst hv
        split at h
        · cases h
        · rename_i codec' m h2
          split at h
          · cases h
          · rename_i code' d' n' h3
            simp only [Option.some.injEq, Prod.mk.injEq] at h
            obtain ⟨rfl, rfl, rfl, rfl, rfl⟩ := h
            obtain ⟨e1, e2, e3, e4, e5, e6, e7⟩ := cd_inv h1 h2 h3
            have hm := mhRead_lt h3
            rw [List.length_drop] at hm
            have h := cdBy1_calls (strB d') codec' code' w (by omega) (by omega) (by rw [strB_size]; omega)
            rw [bl_strB, ← e1] at h
            exact h
      · cases h

/-- What the law's last line leaves in its slots. -/
def scR (s a b x : ByteArray) (g N : Nat) (j : Nat) (v : Value) (w : World) : Prop :=
  match j with
  | 0 => v = .bool true
  | 1 => v = .bool true
  | 2 => v = .int .i64 N
  | 3 => v = .string s
  | 4 => v = .int .i64 s.size
  | 5 => v = .bool true
  | 6 => v = .bool true
  | 7 => v = .bool true
  | 8 => v = .string a
  | 9 => v = .pointer (some ⟨g, 4, none⟩)
  | 10 => v = .string b
  | 11 => ∃ g', v = .slice (some ⟨g', 0, none⟩) 2 2 ∧ w.heap[g']? = some (.cells #[.string a, .string b] 9 (0, 0))
  | 12 => v = .string x
  | 13 => v = .string s
  | 14 => v = .int .i64 N
  | 15 => v = .string x
  | 16 => v = .bool true
  | 17 => v = .bool true
  | 18 => v = .bool true
  | _ => True

set_option maxHeartbeats 8000000 in
set_option maxRecDepth 100000 in
/-- laws.FnSeCanon. -/
theorem seCanon_walk (s : ByteArray) (w : World) (hs : s.size ≤ 9223372036854775807) (he : SeErrs w) :
    Calls Tryd.prog 8 #[.string s] w fun e w' => e = .returned (.bool true) ∧ Below w.heap.size w w' := by
  by_cases h1 : s.size ≤ 2147483647
  · by_cases h3 : s.size ≤ 16384
    · have HE := Kp.mk he
      have HO := Kp.mk ldOne_calls
      have HS := Kp.mk (fun w => specBlock_calls s false 1048576 w h1 (by omega))
      clear he hs
      go_enter Tryd.func8, Tryd.ntmps8
      go_wp2_with fail
      refine (HS.out _).mono ?_
      rintro e w1 ⟨hu, hb⟩
      have HB1 := Kp.mk hb
      clear hb HS
      cases hm : longRead (bl s) false 1048576 with
      | left =>
        rw [hm] at hu
        obtain rfl : e = _ := hu
        clear hm
        go_wp2
        go_ret
        exact ⟨rfl, bel_alloc (bel_alloc HB1.out _) _⟩
      | ended k =>
        have HM := Kp.mk hm
        rw [hm] at hu
        obtain rfl : e = _ := hu
        have HB1' := Kp.mk (fun o o2 => bel_alloc (bel_alloc HB1.out o) o2)
        have HC := Kp.mk (fun w he => implSe_calls' s false 1048576 w h1 (by omega) (by rw [HM.out]; exact fun h => by cases h) he)
        clear hm
        go_wp2_with fail
        refine (HC.out _ (HE.out.below (HB1'.out _ _))).mono ?_
        rintro e w2 ⟨hu, hb⟩
        have HB2 := Kp.mk (bel_then HB1.out (bel_new2 hb))
        clear hb HC HB1'
        rw [HM.out] at hu
        obtain ⟨b, rfl⟩ := hu
        have HB2' := Kp.mk (fun o => bel_alloc HB2.out o)
        go_wp2_with fail
        refine (HO.out _ (HE.out.ld.below (HB2'.out _))).mono ?_
        rintro e w3 ⟨rfl, hb⟩
        have HB3 := Kp.mk (bel_then HB2.out (bel_new hb))
        clear hb HB2'
        go_wp2
        go_ret
        exact ⟨rfl, HB3.out⟩
      | failed =>
        have HM := Kp.mk hm
        rw [hm] at hu
        obtain rfl : e = _ := hu
        have HB1' := Kp.mk (fun o o2 => bel_alloc (bel_alloc HB1.out o) o2)
        have HC := Kp.mk (fun w he => implSe_calls' s false 1048576 w h1 (by omega) (by rw [HM.out]; exact fun h => by cases h) he)
        clear hm
        go_wp2_with fail
        refine (HC.out _ (HE.out.below (HB1'.out _ _))).mono ?_
        rintro e w2 ⟨hu, hb⟩
        have HB2 := Kp.mk (bel_then HB1.out (bel_new2 hb))
        clear hb HC HB1'
        rw [HM.out] at hu
        obtain ⟨b, rfl⟩ := hu
        have HB2' := Kp.mk (fun o => bel_alloc HB2.out o)
        go_wp2_with fail
        refine (HO.out _ (HE.out.ld.below (HB2'.out _))).mono ?_
        rintro e w3 ⟨rfl, hb⟩
        have HB3 := Kp.mk (bel_then HB2.out (bel_new hb))
        clear hb HB2'
        go_wp2
        go_ret
        exact ⟨rfl, HB3.out⟩
      | read d N =>
        have HM := Kp.mk hm
        rw [hm] at hu
        unfold SbEnd at hu
        simp only at hu
        cases hcd : cdRead d with
        | none =>
          have HCD := Kp.mk hcd
          rw [hcd] at hu
          obtain rfl : e = _ := hu
          clear hcd
          have HB1' := Kp.mk (fun o o2 => bel_alloc (bel_alloc HB1.out o) o2)
          have HC := Kp.mk (fun w he => implSe_calls' s false 1048576 w h1 (by omega) (by rw [HM.out]; exact fun h => by cases h) he)
          clear hm
          go_wp2_with fail
          refine (HC.out _ (HE.out.below (HB1'.out _ _))).mono ?_
          rintro e w2 ⟨hu, hb⟩
          have HB2 := Kp.mk (bel_then HB1.out (bel_new2 hb))
          clear hb HC HB1'
          rw [HM.out] at hu
          unfold SiEnd at hu
          simp only at hu
          rw [HCD.out] at hu
          obtain ⟨b, rfl⟩ := hu
          have HB2' := Kp.mk (fun o => bel_alloc HB2.out o)
          go_wp2_with fail
          refine (HO.out _ (HE.out.ld.below (HB2'.out _))).mono ?_
          rintro e w3 ⟨rfl, hb⟩
          have HB3 := Kp.mk (bel_then HB2.out (bel_new hb))
          clear hb HB2'
          go_wp2
          go_ret
          exact ⟨rfl, HB3.out⟩
        | some p =>
          obtain ⟨v, codec, code, dg, k⟩ := p
          have HCD := Kp.mk hcd
          rw [hcd] at hu
          obtain rfl : e = _ := hu
          clear hcd
          have HB1' := Kp.mk (fun o o2 => bel_alloc (bel_alloc HB1.out o) o2)
          have HC := Kp.mk (fun w he => implSe_calls' s false 1048576 w h1 (by omega) (by rw [HM.out]; exact fun h => by cases h) he)
          obtain ⟨htk, hNl⟩ := long_inv hm
          rw [bl_length] at hNl
          have hdl := long_dle hm
          rw [bl_length] at hdl
          have hkd := (cdRead_le HCD.out).1
          have HCB := Kp.mk (fun w he => cdByRead_calls d v codec code k dg w HCD.out (by omega) he)
          have HLW := Kp.mk (fun g t w (hg : w.heap[g]? = some (.cells #[.string (strB (d.take k)), .string (strB (d.drop k))] t (0, 0))) => implLw2_calls d k g t w hg hkd (by omega))
          have hcut : s.extract 0 N = strB (Lib.uvarint d.length ++ d) := by rw [← strB_bl (s.extract 0 N), head_bl, htk]
          have HCUT := Kp.mk (And.intro hcut hNl)
          clear hm htk hdl hkd hcut hNl
          go_wp2_with fail
          refine (HC.out _ (HE.out.below (HB1'.out _ _))).mono ?_
          rintro e w2 ⟨hu, hb⟩
          have HB2 := Kp.mk (bel_then HB1.out (bel_new2 hb))
          clear hb HC HB1'
          rw [HM.out] at hu
          unfold SiEnd at hu
          simp only at hu
          rw [HCD.out] at hu
          obtain rfl : e = _ := hu
          have HG := Kp.mk (blk_new (w := w2) (o := .cells #[.int .u64 v, .int .u64 codec, .int .u64 code, .string (strB dg), .string (strB (d.drop k))] 45) (Below.refl _ _))
          have HB3 := Kp.mk (bel_alloc HB2.out (.cells #[.int .u64 v, .int .u64 codec, .int .u64 code, .string (strB dg), .string (strB (d.drop k))] 45))
          have c0 := blk_cell HG.out 0
          have c1 := blk_cell HG.out 1
          have c2 := blk_cell HG.out 2
          have c3 := blk_cell HG.out 3
          go_wp2_with fail
          generalize hW : w2.alloc _ = W at *
          refine (HCB.out _ (HE.out.cd.below HB3.out).mh).mono ?_
          rintro e w3 ⟨rfl, hb⟩
          have HB4 := Kp.mk (bel_then HB3.out hb)
          have HG4 := Kp.mk (blk_keep HG.out hb)
          clear hb hW c0 c1 c2 c3 HB2 HB3 HG HCB
          generalize Lib.uvarint d.length ++ d = xs at *
          go_wp2_with fail
          refine wp_region_growG (fun u u' => Below u.heap.size u u') (fun _ => Below.refl _ _) (fun _ _ _ h k => bel_then h k) (by kernel_rfl) 19 (by decide) (apart_of (by kernel_rfl)) (by kernel_rfl) (scR s (strB (d.take k)) (strB (d.drop k)) (strB xs) w2.heap.size N) (fun j v w w' h hb => by unfold scR at *; split at h <;> first | exact h | (obtain ⟨g', e1, h1⟩ := h; exact ⟨g', e1, blk_keep h1 hb⟩)) ?_ ?_
          · intro j hj o ho vs w5 hb hpre
            have hg5 := blk_keep HG4.out (bel_then (bel_drew (Below.refl _ _)) hb)
            rcases j with _ | _ | _ | _ | _ | _ | _ | _ | _ | _ | _ | _ | _ | _ | _ | _ | _ | _ | _ | j
            · obtain rfl := Option.some.inj ho
              refine .inl ⟨rfl, ?_⟩
              simp only [canon, List.range, List.range.loop, List.foldl]
              go_simp
              exact ⟨rfl, Below.refl _ _⟩
            · obtain rfl := Option.some.inj ho
              have e0 : vs 0 = _ := hpre 0 (by decide) rfl
              refine .inl ⟨rfl, ?_⟩
              simp only [canon, List.range, List.range.loop, List.foldl]
              go_simp
              exact ⟨rfl, Below.refl _ _⟩
            · obtain rfl := Option.some.inj ho
              have e1 : vs 1 = _ := hpre 1 (by decide) rfl
              refine .inl ⟨wanted_of rfl rfl (Nat.le_of_ble_eq_true rfl) (by decide) (apart_of (by kernel_rfl)) e1, ?_⟩
              simp only [canon, List.range, List.range.loop, List.foldl]
              go_simp
              exact ⟨rfl, Below.refl _ _⟩
            · obtain rfl := Option.some.inj ho
              have e1 : vs 1 = _ := hpre 1 (by decide) rfl
              refine .inl ⟨wanted_of rfl rfl (Nat.le_of_ble_eq_true rfl) (by decide) (apart_of (by kernel_rfl)) e1, ?_⟩
              simp only [canon, List.range, List.range.loop, List.foldl]
              go_simp
              exact ⟨rfl, Below.refl _ _⟩
            · obtain rfl := Option.some.inj ho
              have e1 : vs 1 = _ := hpre 1 (by decide) rfl
              have e3 : vs 3 = _ := hpre 3 (by decide) rfl
              refine .inl ⟨wanted_of rfl rfl (Nat.le_of_ble_eq_true rfl) (by decide) (apart_of (by kernel_rfl)) e1, ?_⟩
              simp only [canon, List.range, List.range.loop, List.foldl]
              go_simp
              exact ⟨rfl, Below.refl _ _⟩
            · obtain rfl := Option.some.inj ho
              have e1 : vs 1 = _ := hpre 1 (by decide) rfl
              have e2 : vs 2 = _ := hpre 2 (by decide) rfl
              have e4 : vs 4 = _ := hpre 4 (by decide) rfl
              refine .inl ⟨wanted_of rfl rfl (Nat.le_of_ble_eq_true rfl) (by decide) (apart_of (by kernel_rfl)) e1, ?_⟩
              have hle : decide (N ≤ s.size) = true := decide_eq_true HCUT.out.2
              simp only [canon, List.range, List.range.loop, List.foldl]
              go_simp
              exact ⟨rfl, Below.refl _ _⟩
            · obtain rfl := Option.some.inj ho
              have e1 : vs 1 = _ := hpre 1 (by decide) rfl
              have e5 : vs 5 = _ := hpre 5 (by decide) rfl
              refine .inl ⟨rfl, ?_⟩
              simp only [canon, List.range, List.range.loop, List.foldl]
              go_simp
              exact ⟨rfl, Below.refl _ _⟩
            · obtain rfl := Option.some.inj ho
              have e6 : vs 6 = _ := hpre 6 (by decide) rfl
              refine .inl ⟨rfl, ?_⟩
              simp only [canon, List.range, List.range.loop, List.foldl]
              go_simp
              exact ⟨rfl, Below.refl _ _⟩
            · obtain rfl := Option.some.inj ho
              have e7 : vs 7 = _ := hpre 7 (by decide) rfl
              refine .inl ⟨wanted_of rfl rfl (Nat.le_of_ble_eq_true rfl) (by decide) (apart_of (by kernel_rfl)) e7, ?_⟩
              simp only [canon, List.range, List.range.loop, List.foldl]
              go_simp
              exact ⟨rfl, Below.refl _ _⟩
            · obtain rfl := Option.some.inj ho
              have e7 : vs 7 = _ := hpre 7 (by decide) rfl
              refine .inl ⟨wanted_of rfl rfl (Nat.le_of_ble_eq_true rfl) (by decide) (apart_of (by kernel_rfl)) e7, ?_⟩
              simp only [canon, List.range, List.range.loop, List.foldl]
              go_simp
              exact ⟨rfl, Below.refl _ _⟩
            · obtain rfl := Option.some.inj ho
              have e7 : vs 7 = _ := hpre 7 (by decide) rfl
              have e9 : vs 9 = _ := hpre 9 (by decide) rfl
              refine .inl ⟨wanted_of rfl rfl (Nat.le_of_ble_eq_true rfl) (by decide) (apart_of (by kernel_rfl)) e7, ?_⟩
              have c4 := blk_cell hg5 4
              simp only [canon, List.range, List.range.loop, List.foldl]
              go_simp
              exact ⟨rfl, Below.refl _ _⟩
            · obtain rfl := Option.some.inj ho
              have e7 : vs 7 = _ := hpre 7 (by decide) rfl
              have e8 : vs 8 = _ := hpre 8 (by decide) rfl
              have e10 : vs 10 = _ := hpre 10 (by decide) rfl
              refine .inl ⟨wanted_of rfl rfl (Nat.le_of_ble_eq_true rfl) (by decide) (apart_of (by kernel_rfl)) e7, ?_⟩
              simp only [canon, List.range, List.range.loop, List.foldl]
              go_simp
              exact ⟨⟨_, rfl, blk_new (Below.refl _ _)⟩, bel_alloc (Below.refl _ _) _⟩
            · obtain rfl := Option.some.inj ho
              have e7 : vs 7 = _ := hpre 7 (by decide) rfl
              obtain ⟨gs, e11, hgs⟩ := hpre 11 (by decide) rfl
              refine .inl ⟨wanted_of rfl rfl (Nat.le_of_ble_eq_true rfl) (by decide) (apart_of (by kernel_rfl)) e7, ?_⟩
              simp only [canon, List.range, List.range.loop, List.foldl]
              go_simp
              refine (HLW.out gs _ w5 hgs).mono ?_
              rintro e6 w6 ⟨rfl, hb6⟩
              exact ⟨rfl, hb6⟩
            · obtain rfl := Option.some.inj ho
              have e7 : vs 7 = _ := hpre 7 (by decide) rfl
              refine .inl ⟨wanted_of rfl rfl (Nat.le_of_ble_eq_true rfl) (by decide) (apart_of (by kernel_rfl)) e7, ?_⟩
              simp only [canon, List.range, List.range.loop, List.foldl]
              go_simp
              exact ⟨rfl, Below.refl _ _⟩
            · obtain rfl := Option.some.inj ho
              have e7 : vs 7 = _ := hpre 7 (by decide) rfl
              refine .inl ⟨wanted_of rfl rfl (Nat.le_of_ble_eq_true rfl) (by decide) (apart_of (by kernel_rfl)) e7, ?_⟩
              simp only [canon, List.range, List.range.loop, List.foldl]
              go_simp
              exact ⟨rfl, Below.refl _ _⟩
            · obtain rfl := Option.some.inj ho
              have e7 : vs 7 = _ := hpre 7 (by decide) rfl
              have e13 : vs 13 = _ := hpre 13 (by decide) rfl
              have e14 : vs 14 = _ := hpre 14 (by decide) rfl
              refine .inl ⟨wanted_of rfl rfl (Nat.le_of_ble_eq_true rfl) (by decide) (apart_of (by kernel_rfl)) e7, ?_⟩
              have hcut := HCUT.out.1
              have hnl := HCUT.out.2
              simp only [canon, List.range, List.range.loop, List.foldl]
              go_simp
              exact ⟨rfl, Below.refl _ _⟩
            · obtain rfl := Option.some.inj ho
              have e7 : vs 7 = _ := hpre 7 (by decide) rfl
              have e12 : vs 12 = _ := hpre 12 (by decide) rfl
              have e15 : vs 15 = _ := hpre 15 (by decide) rfl
              refine .inl ⟨wanted_of rfl rfl (Nat.le_of_ble_eq_true rfl) (by decide) (apart_of (by kernel_rfl)) e7, ?_⟩
              simp only [canon, List.range, List.range.loop, List.foldl]
              go_simp
              exact ⟨rfl, Below.refl _ _⟩
            · obtain rfl := Option.some.inj ho
              have e7 : vs 7 = _ := hpre 7 (by decide) rfl
              have e16 : vs 16 = _ := hpre 16 (by decide) rfl
              refine .inl ⟨rfl, ?_⟩
              simp only [canon, List.range, List.range.loop, List.foldl]
              go_simp
              exact ⟨rfl, Below.refl _ _⟩
            · obtain rfl := Option.some.inj ho
              have e17 : vs 17 = _ := hpre 17 (by decide) rfl
              refine .inl ⟨rfl, ?_⟩
              simp only [canon, List.range, List.range.loop, List.foldl]
              go_simp
              exact ⟨rfl, Below.refl _ _⟩
            · omega
          · intro vs w5 hb hr
            have e18 : vs 18 = _ := hr 18 (by omega)
            have HB5 := Kp.mk (bel_then HB4.out (bel_then (bel_drew (Below.refl _ _)) hb))
            clear hb hr
            refine wpAny_none (by kernel_rfl) ?_ _
            generalize hA : canon _ _ vs 19 = A
            have h4 : A.tmps[2]? = some (.bool true) := by rw [← hA, canon_get (i := 18) rfl (Nat.le_of_ble_eq_true rfl) 19 (by omega) (apart_of (by kernel_rfl)), e18]
            have hD : A.defers = [] := by rw [← hA, canon_defers]
            clear hA e18
            go_wp2
            refine bodyPost_ret (results_tmp rfl _ _ _) hD ?_
            exact ⟨by rw [Array.getD_eq_getD_getElem?, h4]; rfl, HB5.out⟩
    · go_enter Tryd.func8, Tryd.ntmps8
      go_wp2
      go_ret
      exact ⟨rfl, Below.refl _ _⟩
  · go_enter Tryd.func8, Tryd.ntmps8
    go_wp2
    go_ret
    exact ⟨rfl, Below.refl _ _⟩

end Go.Proofs.YtdppnlomhlnbkaaDoor
