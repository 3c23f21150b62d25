/- Some texts in one: DataRd, RdData. -/
import Derived.Test.YtkcpgcaccgahaaaGreatDoorCarA
import Derived.Test.YtkcpgcaccgahaaaGreatDoorReadAllA
namespace Go.Proofs.YtkcpgcaccgahaaaGreatDoor
open Go.RowKit

def drR (cr g h2 h3 : Nat) (j : Nat) (v : Value) (_ : World) : Prop :=
  match j with
  | 0 => v = .pointer (some ⟨cr, 0, none⟩)
  | 1 => v = .pointer (some ⟨cr, 0, none⟩)
  | 2 => v = .pointer (some ⟨cr, 6, none⟩)
  | 3 => v = .iface 104 (.pointer (some ⟨g, 0, none⟩))
  | 4 => v = .pointer (some ⟨cr, 0, none⟩)
  | 5 => v = .pointer (some ⟨cr, 0, none⟩)
  | 6 => v = .pointer (some ⟨cr, 0, none⟩)
  | 7 => v = .pointer (some ⟨cr, 2, none⟩)
  | 8 => v = .int .u64 h2
  | 9 => v = .int .i64 h2
  | 10 => v = .pointer (some ⟨cr, 0, none⟩)
  | 11 => v = .pointer (some ⟨cr, 0, none⟩)
  | 12 => v = .pointer (some ⟨cr, 0, none⟩)
  | 13 => v = .pointer (some ⟨cr, 3, none⟩)
  | 14 => v = .int .u64 h3
  | 15 => v = .int .i64 h3
  | _ => True
def drR' (b : Nat) (j : Nat) (v : Value) (_ : World) : Prop :=
  match j with
  | 16 => v = .pointer (some ⟨b, 0, none⟩)
  | 17 => v = .iface 117 (.pointer (some ⟨b, 0, none⟩))
  | 18 => v = .iface 117 (.pointer (some ⟨b, 0, none⟩))
  | 19 => v = .nilIface
  | _ => True

theorem i64_id {x : Nat} (h : x ≤ 9223372036854775807) : IntKind.i64.wrap (x : Int) = (x : Int) := by
  have h3 : (x : Int) % 18446744073709551616 = (x : Int) := by omega
  simp only [IntKind.wrap, IntKind.bits, IntKind.signed]
  simp only [show (2 : Int) ^ 64 = 18446744073709551616 from rfl, show (2 : Int) ^ (64 - 1) = 9223372036854775808 from rfl, h3]
  rw [if_neg (by simp; omega)]
/-- Where a section of z bytes at o ends. -/
def secEndN (o z : Nat) : Nat := if o + z ≤ 9223372036854775807 then o + z else 9223372036854775807
theorem secLim_nat {o z : Nat} : secLim (o : Int) (z : Int) = (secEndN o z : Nat) := by
  unfold secLim secEndN
  by_cases h : o + z ≤ 9223372036854775807
  · rw [if_pos (by omega), if_pos h]; omega
  · rw [if_neg (by omega), if_neg h]; rfl
theorem secEndN_le (o z : Nat) : secEndN o z ≤ 9223372036854775807 := by unfold secEndN; split <;> omega
theorem secBs_endN (o z : Nat) (bs : List UInt8) (h : bs.length ≤ 9223372036854775807) : secBs o (secEndN o z) bs = (bs.drop o).take z := by
  unfold secBs secEndN
  by_cases h1 : o + z ≤ 9223372036854775807
  · rw [if_pos h1, show o + z - o = z by omega]
  · rw [if_neg h1, List.take_of_length_le (by rw [List.length_drop]; omega), List.take_of_length_le (by rw [List.length_drop]; omega)]

set_option maxHeartbeats 8000000 in
set_option maxRecDepth 100000 in
/-- (*car.Reader).DataReader. -/
theorem dataRd_calls (cr g h0 h1 h2 h3 h4 : Nat) (rs : Value) (u : Opt13) (w : World) (hh : w.heap[cr]? = some (.cells (carCs h0 h1 h2 h3 h4 2 g rs u) 92 (0, 0))) (hd : h2 ≤ 9223372036854775807) (hz : h3 ≤ 9223372036854775807) :
    Calls Tryz.prog 27 #[.pointer (some ⟨cr, 0, none⟩)] w fun e w' => ∃ gs, e = .returned (.tuple #[.iface 117 (.pointer (some ⟨gs, 0, none⟩)), .nilIface]) ∧ w.heap.size ≤ gs ∧ w'.heap[gs]? = some (.cells (secCs g h2 h2 (secEndN h2 h3) h3) 153 (0, 0)) ∧ Below w.heap.size w w' := by
  have k5 : w.cell? ⟨cr, 5, none⟩ = some (.int .u64 2) := blk_cell hh 5
  have HN := Kp.mk (fun W => newSec_calls g h2 h3 (by omega) (by omega) W)
  have hw2 := i64_id hd
  have hw3 := i64_id hz
  have hdr := bel_drew (Below.refl w.heap.size w)
  have hh1 := blk_keep hh hdr
  have c2 : w.drew.cell? ⟨cr, 2, none⟩ = some (.int .u64 h2) := blk_cell hh1 2
  have c3 : w.drew.cell? ⟨cr, 3, none⟩ = some (.int .u64 h3) := blk_cell hh1 3
  have c6 : w.drew.cell? ⟨cr, 6, none⟩ = some (.iface 104 (.pointer (some ⟨g, 0, none⟩))) := blk_cell hh1 6
  have HL := Kp.mk (secLim_nat (o := h2) (z := h3))
  have HB := Kp.mk hdr
  clear hh hd hz hdr hh1
  go_enter Tryz.func27, Tryz.ntmps27
  go_wp2_with fail
  refine wp_region_growR (fun u u' => u = u') (fun _ => rfl) (fun _ _ _ h k => h.trans k) (by kernel_rfl) 16 (by decide) (apart_of (by kernel_rfl)) (by kernel_rfl) (drR cr g h2 h3) (fun _ _ _ _ => True) (fun _ _ _ _ h _ => by unfold drR at *; exact h) ?_ ?_
  · intro j hj ob ho vs w2 hb hpre
    subst hb
    rcases j with _ | _ | _ | _ | _ | _ | _ | _ | _ | _ | _ | _ | _ | _ | _ | _ | j
    · obtain rfl := Option.some.inj ho
      simp only [canon, List.range, List.range.loop, List.foldl]
      go_simp
      all_goals first | rfl | exact ⟨rfl, rfl⟩ | trivial
    · have e0 : vs 0 = _ := hpre 0 (by decide) (by obtain rfl := Option.some.inj ho; rfl)
      obtain rfl := Option.some.inj ho
      simp only [canon, List.range, List.range.loop, List.foldl]
      go_simp
      all_goals first | rfl | exact ⟨rfl, rfl⟩ | trivial
    · have e1 : vs 1 = _ := hpre 1 (by decide) (by obtain rfl := Option.some.inj ho; rfl)
      obtain rfl := Option.some.inj ho
      simp only [canon, List.range, List.range.loop, List.foldl]
      go_simp
      all_goals first | rfl | exact ⟨rfl, rfl⟩ | trivial
    · have e2 : vs 2 = _ := hpre 2 (by decide) (by obtain rfl := Option.some.inj ho; rfl)
      obtain rfl := Option.some.inj ho
      simp only [canon, List.range, List.range.loop, List.foldl]
      go_simp
      all_goals first | rfl | exact ⟨rfl, rfl⟩ | trivial
    · obtain rfl := Option.some.inj ho
      simp only [canon, List.range, List.range.loop, List.foldl]
      go_simp
      all_goals first | rfl | exact ⟨rfl, rfl⟩ | trivial
    · have e4 : vs 4 = _ := hpre 4 (by decide) (by obtain rfl := Option.some.inj ho; rfl)
      obtain rfl := Option.some.inj ho
      simp only [canon, List.range, List.range.loop, List.foldl]
      go_simp
      all_goals first | rfl | exact ⟨rfl, rfl⟩ | trivial
    · have e5 : vs 5 = _ := hpre 5 (by decide) (by obtain rfl := Option.some.inj ho; rfl)
      obtain rfl := Option.some.inj ho
      simp only [canon, List.range, List.range.loop, List.foldl]
      go_simp
      all_goals first | rfl | exact ⟨rfl, rfl⟩ | trivial
    · have e6 : vs 6 = _ := hpre 6 (by decide) (by obtain rfl := Option.some.inj ho; rfl)
      obtain rfl := Option.some.inj ho
      simp only [canon, List.range, List.range.loop, List.foldl]
      go_simp
      all_goals first | rfl | exact ⟨rfl, rfl⟩ | trivial
    · have e7 : vs 7 = _ := hpre 7 (by decide) (by obtain rfl := Option.some.inj ho; rfl)
      obtain rfl := Option.some.inj ho
      simp only [canon, List.range, List.range.loop, List.foldl]
      go_simp
      all_goals first | rfl | exact ⟨rfl, rfl⟩ | trivial
    · have e8 : vs 8 = _ := hpre 8 (by decide) (by obtain rfl := Option.some.inj ho; rfl)
      obtain rfl := Option.some.inj ho
      simp only [canon, List.range, List.range.loop, List.foldl]
      go_simp
      all_goals first | rfl | exact ⟨rfl, rfl⟩ | trivial
    · obtain rfl := Option.some.inj ho
      simp only [canon, List.range, List.range.loop, List.foldl]
      go_simp
      all_goals first | rfl | exact ⟨rfl, rfl⟩ | trivial
    · have e10 : vs 10 = _ := hpre 10 (by decide) (by obtain rfl := Option.some.inj ho; rfl)
      obtain rfl := Option.some.inj ho
      simp only [canon, List.range, List.range.loop, List.foldl]
      go_simp
      all_goals first | rfl | exact ⟨rfl, rfl⟩ | trivial
    · have e11 : vs 11 = _ := hpre 11 (by decide) (by obtain rfl := Option.some.inj ho; rfl)
      obtain rfl := Option.some.inj ho
      simp only [canon, List.range, List.range.loop, List.foldl]
      go_simp
      all_goals first | rfl | exact ⟨rfl, rfl⟩ | trivial
    · have e12 : vs 12 = _ := hpre 12 (by decide) (by obtain rfl := Option.some.inj ho; rfl)
      obtain rfl := Option.some.inj ho
      simp only [canon, List.range, List.range.loop, List.foldl]
      go_simp
      all_goals first | rfl | exact ⟨rfl, rfl⟩ | trivial
    · have e13 : vs 13 = _ := hpre 13 (by decide) (by obtain rfl := Option.some.inj ho; rfl)
      obtain rfl := Option.some.inj ho
      simp only [canon, List.range, List.range.loop, List.foldl]
      go_simp
      all_goals first | rfl | exact ⟨rfl, rfl⟩ | trivial
    · have e14 : vs 14 = _ := hpre 14 (by decide) (by obtain rfl := Option.some.inj ho; rfl)
      obtain rfl := Option.some.inj ho
      simp only [canon, List.range, List.range.loop, List.foldl]
      go_simp
      all_goals first | rfl | exact ⟨rfl, rfl⟩ | trivial
    · omega
  · intro vs w2 hb hr _
    subst hb
    have e3 : vs 3 = _ := hr 3 (by omega)
    have e9 : vs 9 = _ := hr 9 (by omega)
    have e15 : vs 15 = _ := hr 15 (by omega)
    simp only [canon, List.range, List.range.loop, List.foldl]
    refine wpAny_last 16 (by kernel_rfl) ?_
    refine wpOp_go rfl rfl ?_
    go_simp
    refine (HN.out _).mono ?_
    rintro e w1 ⟨rfl, h1, h2'⟩
    rw [HL.out] at h1
    obtain ⟨b, hb⟩ : ∃ b, b = w.drew.heap.size := ⟨_, rfl⟩
    rw [← hb] at h1 ⊢
    have HE := Kp.mk (And.intro hb (And.intro h1 h2'))
    clear h1 h2' hb HN
    refine wpAny_restR (fun u u' => u = u') (fun _ => rfl) (fun _ _ _ h k => h.trans k) 17 20 rfl (by decide) (apart_of (by kernel_rfl)) (by kernel_rfl) (drR' b) (fun _ _ _ _ h _ => by unfold drR' at *; exact h) ?_ ?_ ?_
    · intro i hi
      rcases i with _ | _ | _ | _ | _ | _ | _ | _ | _ | _ | _ | _ | _ | _ | _ | _ | _ | i
      all_goals first | trivial | rfl | omega
    · intro j hkj hj ob ho vs w2 hb hpre
      subst hb
      rcases j with _ | _ | _ | _ | _ | _ | _ | _ | _ | _ | _ | _ | _ | _ | _ | _ | _ | _ | _ | _ | j
      iterate 17 (· omega)
      · have e16 : vs 16 = _ := hpre 16 (by decide) (by obtain rfl := Option.some.inj ho; rfl)
        obtain rfl := Option.some.inj ho
        simp only [canon, List.range, List.range.loop, List.foldl]
        go_simp
        all_goals first | rfl | exact ⟨rfl, rfl⟩ | trivial
      · have e17 : vs 17 = _ := hpre 17 (by decide) (by obtain rfl := Option.some.inj ho; rfl)
        obtain rfl := Option.some.inj ho
        simp only [canon, List.range, List.range.loop, List.foldl]
        go_simp
        all_goals first | rfl | exact ⟨rfl, rfl⟩ | trivial
      · obtain rfl := Option.some.inj ho
        simp only [canon, List.range, List.range.loop, List.foldl]
        go_simp
        all_goals first | rfl | exact ⟨rfl, rfl⟩ | trivial
      · omega
    · intro vs w2 hb hr
      subst hb
      have e17 : vs 17 = _ := hr 17 (by omega)
      have e18 : vs 18 = _ := hr 18 (by omega)
      have e19 : vs 19 = _ := hr 19 (by omega)
      simp only [canon, List.range, List.range.loop, List.foldl]
      rw [e17, e18, e19]
      go_simp
      clear hr
      go_wp2_with fail
      go_ret2
      exact ⟨b, rfl, HE.out.1 ▸ HB.out.size, HE.out.2.1, bel_then HB.out HE.out.2.2⟩

end Go.Proofs.YtkcpgcaccgahaaaGreatDoor
namespace Go.Proofs.YtkcpgcaccgahaaaGreatDoor
open Go.RowKit

def rddR (gx n cx : Nat) (st : ByteArray) (j : Nat) (v : Value) (_ : World) : Prop :=
  match j with
  | 0 => v = .slice (some ⟨gx, 0, none⟩) n cx
  | 1 => v = .string st
  | 2 => v = .nilIface
  | 3 => v = .bool true
  | 4 => v = .string st
  | 5 => v = .bool true
  | _ => True

set_option maxHeartbeats 8000000 in
set_option maxRecDepth 100000 in
/-- impl.RdData. -/
theorem rdData_calls (o : OptI) (hy0 : o.codec = 0) (hz1 : o.mc = 0) (hz2 : o.mh = 0) (hz3 : o.ms = 0) (s : ByteArray) (w : World) (ve vu vo vn : Value) (he : RdErrs ve vu vo vn w) (hce : CdErrs w) (hst : ∃ v, w.cell? ⟨1, 0, none⟩ = some v ∧ NotEof v w)
    (r : List UInt8) (hs : bl s = pragB ++ r) (hr : 40 ≤ r.length) (hsz : s.size ≤ 1099511627776) (hsd : hdSound (leAt 27 (bl s)) (leAt 35 (bl s)) (leAt 43 (bl s))) :
    Calls Tryz.prog 8 #[.string s, .agg o.cells] w fun e w' => e = .returned (.tuple #[.string (strB (((bl s).drop (leAt 27 (bl s))).take (leAt 35 (bl s)))), .bool true]) ∧ Below w.heap.size w w' := by
  show Calls Tryz.prog 8 #[.string s, .agg #[.bool o.z, .bool o.id, .bool o.dup, .bool o.wh, .bool o.v1, .bool o.tr, .int .u64 o.dp, .int .u64 o.ip, .int .u64 o.codec, .int .u64 o.mc, .int .u64 o.mh, .int .u64 o.ms]] w _
  have HR : Kp (∀ W, Below w.heap.size w W → Calls Tryz.prog 26 #[.string s, .agg #[.bool o.z, .bool o.id, .bool o.dup, .bool o.wh, .bool o.v1, .bool o.tr, .int .u64 o.dp, .int .u64 o.ip, .int .u64 o.codec, .int .u64 o.mc, .int .u64 o.mh, .int .u64 o.ms]] W fun e w' => RrEnd (bl s) W e w') := ⟨fun W hb => by
    obtain ⟨v, h1, h2⟩ := hst
    exact reader_calls o hy0 hz1 hz2 hz3 s W ve vu vo vn (he.below hb) (hce.below hb) ⟨v, cell_bel hb h1, h2.below hb⟩ r hs hr (by omega) hsd⟩
  obtain ⟨b0, hb0⟩ : ∃ b0, b0 = leAt 27 (bl s) := ⟨_, rfl⟩
  obtain ⟨z0, hz0⟩ : ∃ z0, z0 = leAt 35 (bl s) := ⟨_, rfl⟩
  rw [← hb0, ← hz0]
  have HBZ := Kp.mk (And.intro hb0 hz0)
  have HE := Kp.mk he
  have HX := Kp.mk (And.intro hsz (And.intro (bl_length s) hsd))
  clear hb0 hz0 hy0 hz1 hz2 hz3 he hce hst hs hr hsz hsd
  go_enter Tryz.func8, Tryz.ntmps8
  go_wp2_with fail
  refine (HR.out _ (bel_alloc (Below.refl _ _) _)).mono ?_
  rintro e w1 ⟨g, ga, c, cr, u, hu, rfl, hcr, hg, hrd, hga, hag, hgcr, hb1⟩
  have hbw1 := bel_new hb1
  have hga' : w.heap.size ≤ ga := Nat.le_trans (by simp [World.alloc, -World.alloc_eq]) hga
  have hsd := HX.out.2.2
  unfold hdSound at hsd
  rw [← HBZ.out.1, ← HBZ.out.2] at hcr hsd
  have HD := Kp.mk (dataRd_calls cr g _ _ b0 z0 _ _ u w1 hcr (by omega) (by omega))
  have HY := Kp.mk (And.intro hg (And.intro hrd (And.intro hga' (And.intro hag (And.intro hbw1 (Array.getElem?_eq_some_iff.1 hg).1)))))
  clear hu hcr hg hrd hga hga' hag hgcr hb1 hbw1 hsd HR
  go_wp2_with fail
  refine HD.out.mono ?_
  rintro e w2 ⟨gs, rfl, hgs, hblk, hb2⟩
  have hbw2 : Below w.heap.size w w2 := HY.out.2.2.2.2.1.trans (hb2.mono HY.out.2.2.2.2.1.size)
  have hS : SeS w g ga (bl s).length c b0 (secEndN b0 z0) z0 gs (bl s) 0 w2 := SeS.start hbw2 ⟨_, _, blk_keep HY.out.1 hb2⟩ (HY.out.2.1.below hb2) hblk
  have hsz1 := HY.out.2.2.2.2.1.size
  have hlen := HX.out.1
  have hbl := HX.out.2.1
  obtain ⟨x, hx⟩ : ∃ x, x = secBs b0 (secEndN b0 z0) (bl s) := ⟨_, rfl⟩
  have hxl : x.length ≤ 1099511627776 := by rw [hx, secBs_length]; omega
  have hsrc := srcSec w g ga (bl s).length c b0 (secEndN b0 z0) z0 gs (bl s) ve vu vo vn HE.out (by have := HY.out; omega) (by omega) HY.out.2.2.2.1 (by have := HY.out.2.2.2.2.2; omega) (by omega) (secEndN_le _ _)
  rw [← hx] at hsrc
  have HA := Kp.mk (rdAll_calls _ _ _ _ _ _ _ _ _ _ _ hsrc w2 hS hxl)
  have HZ := Kp.mk (And.intro hbw2 (And.intro (show w.heap.size ≤ gs by omega) (show x = ((bl s).drop b0).take z0 from hx.trans (secBs_endN b0 z0 (bl s) (by omega)))))
  clear hgs hblk hb2 hbw2 hS hsz1 hlen hbl hx hxl hsrc HD
  go_wp2_with fail
  refine HA.out.mono ?_
  rintro e w3 ⟨gx, cx, rfl, hown, _, hx3⟩
  have hcv := rd_string hown.rd 67 9 Tryz.underlying67 Tryz.underlying9
  have hcv1 := rd_string (hown.rd.below (bel_drew (Below.refl _ _))) 67 9 Tryz.underlying67 Tryz.underlying9
  have HB3 : Kp (Below w.heap.size w w3) := ⟨HZ.out.1.trans (hx3.toBelow (fun k hk e => by have := HZ.out.2.1; omega) HZ.out.1.size)⟩
  clear hown hx3 HA
  go_wp2_with fail
  refine wp_region_growR (fun u u' => u = u') (fun _ => rfl) (fun _ _ _ h k => h.trans k) (by kernel_rfl) 6 (by decide) (apart_of (by kernel_rfl)) (by kernel_rfl) (rddR gx x.length cx (strB x)) (fun _ _ _ _ => True) (fun _ _ _ _ h _ => by unfold rddR at *; exact h) ?_ ?_
  · intro j hj ob ho vs w2 hb hpre
    subst hb
    rcases j with _ | _ | _ | _ | _ | _ | j
    · obtain rfl := Option.some.inj ho
      simp only [canon, List.range, List.range.loop, List.foldl]
      go_simp
      all_goals first | rfl | exact ⟨rfl, rfl⟩ | trivial
    · have e0 : vs 0 = _ := hpre 0 (by decide) (by obtain rfl := Option.some.inj ho; rfl)
      obtain rfl := Option.some.inj ho
      simp only [canon, List.range, List.range.loop, List.foldl]
      go_simp
      all_goals first | rfl | exact ⟨rfl, rfl⟩ | trivial
    · obtain rfl := Option.some.inj ho
      simp only [canon, List.range, List.range.loop, List.foldl]
      go_simp
      all_goals first | rfl | exact ⟨rfl, rfl⟩ | trivial
    · have e2 : vs 2 = _ := hpre 2 (by decide) (by obtain rfl := Option.some.inj ho; rfl)
      obtain rfl := Option.some.inj ho
      simp only [canon, List.range, List.range.loop, List.foldl]
      go_simp
      all_goals first | rfl | exact ⟨rfl, rfl⟩ | trivial
    · have e1 : vs 1 = _ := hpre 1 (by decide) (by obtain rfl := Option.some.inj ho; rfl)
      obtain rfl := Option.some.inj ho
      simp only [canon, List.range, List.range.loop, List.foldl]
      go_simp
      all_goals first | rfl | exact ⟨rfl, rfl⟩ | trivial
    · have e3 : vs 3 = _ := hpre 3 (by decide) (by obtain rfl := Option.some.inj ho; rfl)
      obtain rfl := Option.some.inj ho
      simp only [canon, List.range, List.range.loop, List.foldl]
      go_simp
      all_goals first | rfl | exact ⟨rfl, rfl⟩ | trivial
    · omega
  · intro vs w2 hb hr _
    subst hb
    have e0 : vs 0 = _ := hr 0 (by omega)
    have e1 : vs 1 = _ := hr 1 (by omega)
    have e2 : vs 2 = _ := hr 2 (by omega)
    have e3 : vs 3 = _ := hr 3 (by omega)
    have e4 : vs 4 = _ := hr 4 (by omega)
    have e5 : vs 5 = _ := hr 5 (by omega)
    simp only [canon, List.range, List.range.loop, List.foldl]
    refine wpAny_none (by kernel_rfl) ?_ _
    rw [e0, e1, e2, e3, e4, e5]
    go_simp
    go_wp2
    go_ret2
    rw [HZ.out.2.2]
    exact ⟨rfl, bel_drew HB3.out⟩

end Go.Proofs.YtkcpgcaccgahaaaGreatDoor
