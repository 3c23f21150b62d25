/- Some texts in one: CidFrom, CidFrom0. -/
import Derived.Test.YtkcpgcaccgahaaaGreatDoorCidRd
namespace Go.Proofs.YtkcpgcaccgahaaaGreatDoor
open Go.RowKit

set_option linter.constructorNameAsVariable false in
set_option maxHeartbeats 4000000 in
set_option maxRecDepth 100000 in
/-- cid.CidFromBytes of what begins as version 0 but is too short. -/
theorem cidFrom_short (A : Option Addr) (n c : Nat) (bs : List UInt8) (w : World) (hr : RdB w A n c bs) (he : CdErrs w) (hz : cdZero bs) (h34 : n < 34) :
    Calls Tryz.prog 155 #[.slice A n c] w fun e w' => CfEnd bs e ∧ Below w.heap.size w w' := by
  have hl := hr.len
  have HN := Kp.mk (show cdRead bs = none by unfold cdRead; rw [if_pos hz, if_pos (by omega)])
  obtain ⟨z0, z1, z2⟩ := hz
  obtain ⟨g, o, rfl, hc⟩ := hr.lies (by omega)
  obtain ⟨su, hsu⟩ := he.undef
  have hc0 : ∀ ob, (w.alloc ob).cell? ⟨g, o, none⟩ = some (.int .u8 18) := fun ob => cell_bel (bel_alloc (Below.refl _ _) ob) (by
    have h := hc 0 (by omega)
    rw [List.getElem?_eq_getElem (by omega)] at z1
    rw [Option.some.inj z1, Nat.add_zero] at h
    exact h)
  have hc1 : ∀ ob, (w.alloc ob).cell? ⟨g, o + 1, none⟩ = some (.int .u8 32) := fun ob => cell_bel (bel_alloc (Below.refl _ _) ob) (by
    have h := hc 1 (by omega)
    rw [List.getElem?_eq_getElem (by omega)] at z2
    rw [Option.some.inj z2] at h
    exact h)
  have HU0 := Kp.mk hsu
  have hn2 : 2 < n := by omega
  clear hr hc z0 z1 z2 hl he hsu
  go_enter Tryz.func155, Tryz.ntmps155
  go_wp2_with fail
  generalize hW : w.alloc _ = W at *
  have HU := Kp.mk (show W.cell? ⟨10, 0, none⟩ = some (.string su) by rw [← hW]; exact cell_bel (bel_alloc (Below.refl _ _) _) HU0.out)
  have HBW := Kp.mk (show Below w.heap.size w W by rw [← hW]; exact bel_alloc (Below.refl _ _) _)
  have HRB : Kp (W.heap[w.heap.size]? = some (.cells #[.string ⟨#[]⟩] 135 (0, 0))) := ⟨by rw [← hW]; simp [World.alloc, -World.alloc_eq]⟩
  clear hc0 hc1 hW HU
  refine wp_region_growR (OneStep w.heap.size (.cells #[.string ⟨#[]⟩] 135 (0, 0)) (.cells #[.string su] 135 (0, 0))) (fun _ => OneStep.refl _ _ _ _) (fun _ _ _ h k => h.trans k) (by kernel_rfl) 7 (by decide) (apart_of (by kernel_rfl)) (by kernel_rfl) (ceR w.heap.size su) (fun _ _ _ _ => True) (fun _ _ _ _ h hb => ceR_keep h hb) ?_ ?_
  · intro j hj ob ho vs w5 hb5 hpre
    have hlt : w.heap.size < w5.heap.size := by have h1 := hb5.1.size; have h2 := (Array.getElem?_eq_some_iff.1 HRB.out).1; have h3 : W.drew.heap.size = W.heap.size := rfl; omega
    have HB5 := Kp.mk (HBW.out.trans ((bel_drew (Below.refl _ W)).trans hb5.1))
    rcases j with _ | _ | _ | _ | _ | _ | _ | j
    · obtain rfl := Option.some.inj ho
      have c9 := (HB5.out.cell (World.block_lt_of_cell? w _ HU0.out)).trans HU0.out
      simp only [canon, List.range, List.range.loop, List.foldl]
      go_simp
      exact ⟨rfl, OneStep.refl _ _ _ _⟩
    · obtain rfl := Option.some.inj ho
      simp only [canon, List.range, List.range.loop, List.foldl]
      go_simp
      refine (errNew_calls _ _).mono ?_
      rintro e6 w6 ⟨⟨T, v, rfl⟩, hb6⟩
      exact ⟨⟨T, v, rfl⟩, OneStep.of_below hb6 hlt⟩
    · obtain ⟨T, v, e1⟩ := hpre 1 (by decide) (by obtain rfl := Option.some.inj ho; rfl)
      obtain rfl := Option.some.inj ho
      simp only [canon, List.range, List.range.loop, List.foldl]
      go_simp
      exact ⟨⟨_, rfl⟩, OneStep.refl _ _ _ _⟩
    · obtain ⟨x, e2⟩ := hpre 2 (by decide) (by obtain rfl := Option.some.inj ho; rfl)
      obtain rfl := Option.some.inj ho
      simp only [canon, List.range, List.range.loop, List.foldl]
      go_simp
      exact ⟨⟨_, rfl⟩, OneStep.refl _ _ _ _⟩
    · obtain rfl := Option.some.inj ho
      simp only [canon, List.range, List.range.loop, List.foldl]
      go_simp
      exact ⟨rfl, OneStep.refl _ _ _ _⟩
    · have e0 : vs 0 = _ := hpre 0 (by decide) (by obtain rfl := Option.some.inj ho; rfl)
      have hst := store_step (s := su) (hb5.2.2 HRB.out)
      obtain ⟨s0, hblk⟩ := one_of (hb5.2.2 HRB.out)
      have c0 := blk_cell hblk 0
      have f0 := blk_frozen hblk 0
      obtain rfl := Option.some.inj ho
      simp only [canon, List.range, List.range.loop, List.foldl]
      go_simp
      exact ⟨undef, hst.1⟩
    · obtain ⟨x, e3⟩ := hpre 3 (by decide) (by obtain rfl := Option.some.inj ho; rfl)
      obtain rfl := Option.some.inj ho
      simp only [canon, List.range, List.range.loop, List.foldl]
      go_simp
      exact ⟨⟨_, rfl⟩, OneStep.refl _ _ _ _⟩
    · omega
  · intro vs w5 hb5 hr5 hd5
    have e4 : vs 4 = _ := hr5 4 (by omega)
    have h5 := hr5 5 (by omega)
    have k6 := hr5 6 (by omega)
    unfold ceR at h5 k6
    have HB5 := Kp.mk (HBW.out.trans ((bel_drew (Below.refl _ W)).trans hb5.1))
    have HK5 := Kp.mk h5
    clear hb5 hr5 hd5 h5
    simp only [canon, List.range, List.range.loop, List.foldl]
    refine wpAny_none (by kernel_rfl) ?_ _
    simp only at k6
    obtain ⟨x, e6⟩ := k6
    go_wp2_with fail
    refine bodyPost_ret (res_cell_mid rfl _ _ w.heap.size 135 #[.string su] _ rfl HK5.out Tryz.underlying135 rfl (by kernel_rfl)) rfl ?_
    exact ⟨cfEnd_none HN.out, HB5.out⟩

end Go.Proofs.YtkcpgcaccgahaaaGreatDoor
namespace Go.Proofs.YtkcpgcaccgahaaaGreatDoor
open Go.RowKit

theorem cd0_shape {bs : List UInt8} (h : cdZero bs) (hl : 34 ≤ bs.length) : bs.take 34 = 18 :: 32 :: (bs.drop 2).take 32 := by
  obtain ⟨h0, h1, h2⟩ := h
  match bs, hl, h1, h2 with
  | a :: b :: r, _, h1, h2 =>
    simp at h1 h2
    subst h1 h2
    rfl
theorem cdRead_zero {bs : List UInt8} (h : cdZero bs) (hl : 34 ≤ bs.length) : cdRead bs = some (0, 112, 18, (bs.drop 2).take 32, 34) := by
  unfold cdRead; rw [if_pos h, if_neg (by omega)]

/-- What the operations of the region that hands back an identifier of version 0 leave. -/
def k7R (r : Nat) (A : Option Addr) (c : Nat) (S : ByteArray) (i : Nat) (v : Value) (w : World) : Prop :=
  match i with
  | 0 => v = .slice A 34 c
  | 1 => v = .string S
  | 2 => v = .agg #[.string S]
  | 3 => v = .int .i64 34
  | 4 => w.heap[r]? = some (.cells #[.string S] 135 (0, 0))
  | 5 => v = .nilIface
  | _ => True
theorem k7R_keep {r : Nat} {A : Option Addr} {c : Nat} {S : ByteArray} {C0 : Obj} {i : Nat} {v : Value} {w w' : World} (h : k7R r A c S i v w) (hb : OneStep r C0 (.cells #[.string S] 135 (0, 0)) w w') : k7R r A c S i v w' := by
  unfold k7R at *
  split at h <;> first | exact h | exact hb.2.1 h

set_option linter.constructorNameAsVariable false in
set_option maxHeartbeats 4000000 in
set_option maxRecDepth 100000 in
/-- cid.CidFromBytes of one of version 0. -/
theorem cidFrom_zero (A : Option Addr) (n c : Nat) (bs : List UInt8) (w : World) (hr : RdB w A n c bs) (he : CdErrs w) (hz : cdZero bs) (h34 : 34 ≤ n) :
    Calls Tryz.prog 155 #[.slice A n c] w fun e w' => CfEnd bs e ∧ Below w.heap.size w w' := by
  have hl := hr.len
  have hcap := hr.cap
  have hsh := cd0_shape hz (by omega)
  have HN := Kp.mk (cdRead_zero hz (by omega))
  have hd32 : ((bs.drop 2).take 32).length = 32 := by rw [List.length_take, List.length_drop]; omega
  obtain ⟨z0, z1, z2⟩ := hz
  obtain ⟨g, o, rfl, hc⟩ := hr.lies (by omega)
  have hc0 : ∀ ob, (w.alloc ob).cell? ⟨g, o, none⟩ = some (.int .u8 18) := fun ob => cell_bel (bel_alloc (Below.refl _ _) ob) (by
    have h := hc 0 (by omega)
    rw [List.getElem?_eq_getElem (by omega)] at z1
    rw [Option.some.inj z1, Nat.add_zero] at h
    exact h)
  have hc1 : ∀ ob, (w.alloc ob).cell? ⟨g, o + 1, none⟩ = some (.int .u8 32) := fun ob => cell_bel (bel_alloc (Below.refl _ _) ob) (by
    have h := hc 1 (by omega)
    rw [List.getElem?_eq_getElem (by omega)] at z2
    rw [Option.some.inj z2] at h
    exact h)
  have hn2 : 2 < n := by omega
  have ht := hr.take 34 h34
  have HC := Kp.mk (fun ob => cast_calls (some ⟨g, o, none⟩) 34 c (bs.take 34) 18 ((bs.drop 2).take 32) (w.alloc ob) (ht.below (bel_alloc (Below.refl _ _) ob)) (he.mh.below (bel_alloc (Below.refl _ _) ob)) (by omega) (by rw [hsh]; exact cid0_mh hd32) (by rw [hsh]; simp [hd32]))
  have HT := Kp.mk ht
  have h34c : 34 ≤ c := by omega
  clear hr hc z0 z1 z2 hl he hsh hd32 ht hcap
  go_enter Tryz.func155, Tryz.ntmps155
  go_wp2_with fail
  refine (HC.out _).mono ?_
  rintro e w1 ⟨rfl, hb⟩
  have HRB := Kp.mk (blk_new hb)
  have HBW := Kp.mk (bel_new hb)
  clear hb HC hc0 hc1
  go_wp2_with fail
  refine wp_region_growR (OneStep w.heap.size (.cells #[.string ⟨#[]⟩] 135 (0, 0)) (.cells #[.string (strB (bs.take 34))] 135 (0, 0))) (fun _ => OneStep.refl _ _ _ _) (fun _ _ _ h k => h.trans k) (by kernel_rfl) 6 (by decide) (apart_of (by kernel_rfl)) (by kernel_rfl) (k7R w.heap.size (some ⟨g, o, none⟩) c (strB (bs.take 34))) (fun _ _ _ _ => True) (fun _ _ _ _ h hb => k7R_keep h hb) ?_ ?_
  · intro j hj ob ho vs w5 hb5 hpre
    have HB5 := Kp.mk (HBW.out.trans ((bel_drew (Below.refl _ w1)).trans hb5.1))
    rcases j with _ | _ | _ | _ | _ | _ | j
    · obtain rfl := Option.some.inj ho
      simp only [canon, List.range, List.range.loop, List.foldl]
      go_simp
      exact ⟨rfl, OneStep.refl _ _ _ _⟩
    · have e0 : vs 0 = _ := hpre 0 (by decide) (by obtain rfl := Option.some.inj ho; rfl)
      have hcv := rd_string (HT.out.below HB5.out) 168 9 Tryz.underlying168 Tryz.underlying9
      obtain rfl := Option.some.inj ho
      simp only [canon, List.range, List.range.loop, List.foldl]
      go_simp
      exact ⟨rfl, OneStep.refl _ _ _ _⟩
    · obtain rfl := Option.some.inj ho
      have e1 : vs 1 = _ := hpre 1 (by decide) rfl
      simp only [canon, List.range, List.range.loop, List.foldl]
      go_simp
      exact ⟨rfl, OneStep.refl _ _ _ _⟩
    · obtain rfl := Option.some.inj ho
      simp only [canon, List.range, List.range.loop, List.foldl]
      go_simp
      exact ⟨rfl, OneStep.refl _ _ _ _⟩
    · have e2 : vs 2 = _ := hpre 2 (by decide) (by obtain rfl := Option.some.inj ho; rfl)
      have hst := store_step (s := strB (bs.take 34)) (hb5.2.2 HRB.out)
      obtain ⟨s0, hblk⟩ := one_of (hb5.2.2 HRB.out)
      have c0 := blk_cell hblk 0
      have f0 := blk_frozen hblk 0
      obtain rfl := Option.some.inj ho
      simp only [canon, List.range, List.range.loop, List.foldl]
      go_simp
      exact ⟨undef, hst.1⟩
    · obtain rfl := Option.some.inj ho
      simp only [canon, List.range, List.range.loop, List.foldl]
      go_simp
      exact ⟨rfl, OneStep.refl _ _ _ _⟩
    · omega
  · intro vs w5 hb5 hr5 hd5
    have h3 := hr5 3 (by omega)
    have h4 := hr5 4 (by omega)
    have h5 := hr5 5 (by omega)
    unfold k7R at h3 h4 h5
    have HB5 := Kp.mk (HBW.out.trans ((bel_drew (Below.refl _ w1)).trans hb5.1))
    have HK5 := Kp.mk h4
    clear hb5 hr5 hd5 h4
    simp only at h3 h5
    simp only [canon, List.range, List.range.loop, List.foldl]
    refine wpAny_none (by kernel_rfl) ?_ _
    go_wp2_with fail
    refine bodyPost_ret (res_cell_mid rfl _ _ w.heap.size 135 #[.string (strB (bs.take 34))] _ rfl HK5.out Tryz.underlying135 rfl (by kernel_rfl)) rfl ?_
    exact ⟨cfEnd_some HN.out rfl rfl, HB5.out⟩

end Go.Proofs.YtkcpgcaccgahaaaGreatDoor
