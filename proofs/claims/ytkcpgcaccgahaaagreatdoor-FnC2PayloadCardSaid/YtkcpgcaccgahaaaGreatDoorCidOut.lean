/- The walk of impl.cidOut. -/
import Derived.Test.YtkcpgcaccgahaaaGreatDoorCidA
import Derived.Test.YtkcpgcaccgahaaaGreatDoorGrowA
namespace Go.Proofs.YtkcpgcaccgahaaaGreatDoor
open Go.RowKit

/-- What operations 0 to 13 of the last region leave. -/
def coR (p g ver codec code : Nat) (d : List UInt8) (A' : Option Addr) (c' : Nat) (i : Nat) (v : Value) (_ : World) : Prop :=
  match i with
  | 0 => v = .pointer (some ⟨p, 0, none⟩)
  | 1 => v = .int .u64 ver
  | 2 => v = .pointer (some ⟨p, 1, none⟩)
  | 3 => v = .int .u64 codec
  | 4 => v = .pointer (some ⟨g, 0, none⟩)
  | 5 => v = .pointer (some ⟨g, 0, none⟩)
  | 6 => v = .pointer (some ⟨g, 0, none⟩)
  | 7 => v = .int .u64 code
  | 8 => v = .pointer (some ⟨g, 0, none⟩)
  | 9 => v = .pointer (some ⟨g, 0, none⟩)
  | 10 => v = .pointer (some ⟨g, 3, none⟩)
  | 11 => v = .slice A' d.length c'
  | 12 => v = .string (strB d)
  | 13 => v = .agg #[.int .u64 ver, .int .u64 codec, .int .u64 code, .string (strB d)]
  | _ => True

set_option maxHeartbeats 2000000 in
set_option maxRecDepth 100000 in
/-- impl.cidOut, where the prefix and the hash are known. -/
theorem cidOut_gen (s : ByteArray) (ver codec code x2 x3 n : Nat) (hb d : List UInt8) (w : World) (he : MhErrs w)
    (HP : Kp (∀ w : World, Calls Tryz.prog 79 #[.agg #[.string s]] w fun e w' => e = .returned (.agg #[.int .u64 ver, .int .u64 codec, .int .u64 x2, .int .i64 x3]) ∧ Below w.heap.size w w'))
    (HH : Kp (∀ w : World, UvErrs w → Calls Tryz.prog 81 #[.agg #[.string s]] w fun e w' => (∃ A c, e = .returned (.slice A n c) ∧ RdB w' A n c hb) ∧ Below w.heap.size w w'))
    (HM : Kp (mhRead hb = some (code, d, n))) (hn : n ≤ 2147483647) (HL : Kp (n = hb.length)) :
    Calls Tryz.prog 56 #[.agg #[.string s]] w fun e w' => e = .returned (.agg #[.int .u64 ver, .int .u64 codec, .int .u64 code, .string (strB d)]) ∧ Below w.heap.size w w' := by
  have HE := Kp.mk he
  have HN := Kp.mk hn
  clear he hn
  go_enter Tryz.func56, Tryz.ntmps56
  go_wp2_with fail
  refine (HP.out _).mono ?_
  rintro e w1 ⟨rfl, hb1⟩
  have HB1 := Kp.mk (bel_new2 hb1)
  have HG1 := Kp.mk (blk_new2 hb1)
  have HS1 := Kp.mk (blk_new (o := .cells #[.string s] 135) (bel_then (bel_alloc (Below.refl _ _) _) hb1))
  clear hb1 HP
  have hs1 := fun o => blk_cell (blk_keep HS1.out (bel_alloc (Below.refl _ _) o)) 0
  go_wp2_with fail
  refine (HH.out _ (HE.out.uv.below (bel_then HB1.out (bel_alloc (Below.refl _ _) _)))).mono ?_
  rintro e w2 ⟨⟨A, c, rfl, hr⟩, hb2⟩
  have HB2 := Kp.mk (bel_then HB1.out (bel_new hb2))
  have HG2 := Kp.mk (blk_keep HG1.out (bel_new hb2))
  have HK2 := Kp.mk (blk_new hb2)
  have HD := Kp.mk (decodeP_calls A n c hb w2 hr (HE.out.below HB2.out) HN.out)
  have HR2 := Kp.mk hr
  clear hs1 HS1 hr hb2 HB1 HG1 HH
  go_wp2_with fail
  refine HD.out.mono ?_
  rintro e w3 ⟨hu, hb3⟩
  unfold DdEnd at hu
  rw [HM.out] at hu
  simp only at hu
  rw [if_pos HL.out] at hu
  obtain ⟨g, A', c', rfl, hg, hblk, hpart⟩ := hu
  have HB3 := Kp.mk (bel_then HB2.out hb3)
  have HG3 := Kp.mk (blk_keep HG2.out hb3)
  have HK3 := Kp.mk (blk_keep HK2.out hb3)
  have HQ3 := Kp.mk hblk
  have HP3 := Kp.mk (hpart _ (HR2.out.below hb3))
  clear hb3 hg hblk hpart HD HB2 HG2 HK2
  generalize w1.heap.size = p at *
  go_wp2_with fail
  refine wp_region_grow (by kernel_rfl) 14 (by decide) (apart_of (by kernel_rfl)) (by kernel_rfl) (coR p g ver codec code d A' c') (fun _ _ _ _ => True) (fun _ _ _ _ h _ => by unfold coR at *; exact h) ?_ ?_
  · intro j hj o ho vs w5 hb5 hpre
    rcases j with _ | _ | _ | _ | _ | _ | _ | _ | _ | _ | _ | _ | _ | _ | j
    · obtain rfl := Option.some.inj ho
      simp only [canon, List.range, List.range.loop, List.foldl]
      go_simp
      exact ⟨rfl, Below.refl _ _⟩
    · obtain rfl := Option.some.inj ho
      have e0 : vs 0 = _ := hpre 0 (by decide) rfl
      have c0 := blk_cell (blk_keep HK3.out (bel_then (bel_drew (Below.refl _ _)) hb5)) 0
      simp only [canon, List.range, List.range.loop, List.foldl]
      go_simp
      exact ⟨rfl, Below.refl _ _⟩
    · obtain rfl := Option.some.inj ho
      simp only [canon, List.range, List.range.loop, List.foldl]
      go_simp
      exact ⟨rfl, Below.refl _ _⟩
    · obtain rfl := Option.some.inj ho
      have e2 : vs 2 = _ := hpre 2 (by decide) rfl
      have c0 := blk_cell (blk_keep HK3.out (bel_then (bel_drew (Below.refl _ _)) hb5)) 1
      simp only [canon, List.range, List.range.loop, List.foldl]
      go_simp
      exact ⟨rfl, Below.refl _ _⟩
    · obtain rfl := Option.some.inj ho
      simp only [canon, List.range, List.range.loop, List.foldl]
      go_simp
      exact ⟨rfl, Below.refl _ _⟩
    · obtain rfl := Option.some.inj ho
      have e4 : vs 4 = _ := hpre 4 (by decide) rfl
      simp only [canon, List.range, List.range.loop, List.foldl]
      go_simp
      exact ⟨rfl, Below.refl _ _⟩
    · obtain rfl := Option.some.inj ho
      have e5 : vs 5 = _ := hpre 5 (by decide) rfl
      simp only [canon, List.range, List.range.loop, List.foldl]
      go_simp
      exact ⟨rfl, Below.refl _ _⟩
    · obtain rfl := Option.some.inj ho
      have e6 : vs 6 = _ := hpre 6 (by decide) rfl
      have c0 := blk_cell (blk_keep HQ3.out (bel_then (bel_drew (Below.refl _ _)) hb5)) 0
      simp only [canon, List.range, List.range.loop, List.foldl]
      go_simp
      exact ⟨rfl, Below.refl _ _⟩
    · obtain rfl := Option.some.inj ho
      simp only [canon, List.range, List.range.loop, List.foldl]
      go_simp
      exact ⟨rfl, Below.refl _ _⟩
    · obtain rfl := Option.some.inj ho
      have e8 : vs 8 = _ := hpre 8 (by decide) rfl
      simp only [canon, List.range, List.range.loop, List.foldl]
      go_simp
      exact ⟨rfl, Below.refl _ _⟩
    · obtain rfl := Option.some.inj ho
      have e9 : vs 9 = _ := hpre 9 (by decide) rfl
      simp only [canon, List.range, List.range.loop, List.foldl]
      go_simp
      exact ⟨rfl, Below.refl _ _⟩
    · obtain rfl := Option.some.inj ho
      have e10 : vs 10 = _ := hpre 10 (by decide) rfl
      have c0 := blk_cell (blk_keep HQ3.out (bel_then (bel_drew (Below.refl _ _)) hb5)) 3
      simp only [canon, List.range, List.range.loop, List.foldl]
      go_simp
      exact ⟨rfl, Below.refl _ _⟩
    · have e11 : vs 11 = _ := hpre 11 (by decide) (by obtain rfl := Option.some.inj ho; rfl)
      obtain rfl := Option.some.inj ho
      have hcv := rd_string (HP3.out.below (bel_then (bel_drew (Below.refl _ _)) hb5)) 67 9 Tryz.underlying67 Tryz.underlying9
      simp only [canon, List.range, List.range.loop, List.foldl]
      go_simp
      exact ⟨rfl, Below.refl _ _⟩
    · obtain rfl := Option.some.inj ho
      have e1 : vs 1 = _ := hpre 1 (by decide) rfl
      have e3 : vs 3 = _ := hpre 3 (by decide) rfl
      have e7 : vs 7 = _ := hpre 7 (by decide) rfl
      have e12 : vs 12 = _ := hpre 12 (by decide) rfl
      simp only [canon, List.range, List.range.loop, List.foldl]
      go_simp
      exact ⟨rfl, Below.refl _ _⟩
    · omega
  · intro vs w5 hb5 hr hd
    have e13 : vs 13 = _ := hr 13 (by omega)
    have hb' := bel_then (bel_drew (Below.refl w3.heap.size w3)) hb5
    have hg5 := blk_keep HG3.out hb'
    have HB5 := Kp.mk (bel_then HB3.out hb')
    have c0 := blk_cell hg5 0
    have c1 := blk_cell hg5 1
    have c2 := blk_cell hg5 2
    have c3 := blk_cell hg5 3
    have f0 := blk_frozen hg5 0
    have f1 := blk_frozen hg5 1
    have f2 := blk_frozen hg5 2
    have f3 := blk_frozen hg5 3
    have HG5 := Kp.mk hg5
    clear hb5 hr hd hb' hg5
    simp only [canon, List.range, List.range.loop, List.foldl]
    refine wpAny_last 14 (by kernel_rfl) ?_
    refine wpOp_go rfl rfl ?_
    go_simp
    refine wpAny_none (by kernel_rfl) ?_ _
    go_wp2_with fail
    refine bodyPost_ret (res_cell1 rfl _ _ (w.heap.size + 1) 74 #[.int .u64 ver, .int .u64 codec, .int .u64 code, .string (strB d)] _ rfl (blk_set (blk_set (blk_set (blk_set HG5.out 0 _) 1 _) 2 _) 3 _) Tryz.underlying74 rfl (by kernel_rfl)) rfl ?_
    exact ⟨rfl, bel_set (bel_set (bel_set (bel_set HB5.out (Nat.le_succ _) _) (Nat.le_succ _) _) (Nat.le_succ _) _) (Nat.le_succ _) _⟩

end Go.Proofs.YtkcpgcaccgahaaaGreatDoor
