/- The walks of cid.NewCidV0, and of impl.cidIn and impl.CdBytes of version 0. -/
import Derived.Test.YtnhnkfdhkifahaaGreatDoorBldA
import Derived.Test.YtnhnkfdhkifahaaGreatDoorCidRd
import Derived.Test.YtnhnkfdhkifahaaGreatDoorRdA
import Derived.Test.YtnhnkfdhkifahaaGreatDoorGrowA
namespace Go.Proofs.YtnhnkfdhkifahaaGreatDoor
open Go.RowKit

set_option maxHeartbeats 4000000 in
set_option maxRecDepth 100000 in
/-- cid.tryNewCidV0 of a multihash that is fit. -/
theorem tryV0_calls (A : Option Addr) (c : Nat) (d : List UInt8) (w : World) (hr : RdB w A 34 c (18 :: 32 :: d)) (he : MhErrs w) (hd : d.length = 32) :
    Calls Tryz.prog 24 #[.slice A 34 c] w fun e w' => e = .returned (.tuple #[.agg #[.string (strB (18 :: 32 :: d))], .nilIface]) ∧ Below w.heap.size w w' := by
  have hal := fun ob => bel_alloc (Below.refl w.heap.size w) ob
  have HD := Kp.mk (fun ob => decodeP_calls A 34 c _ (w.alloc ob) (hr.below (hal ob)) (he.below (hal ob)) (by omega))
  have HM := Kp.mk (cid0_mh hd)
  have HR := Kp.mk hr
  have HL : Kp (34 = (18 :: 32 :: d : List UInt8).length) := ⟨by simp [hd]⟩
  have HD2 := Kp.mk hd
  clear hr he hd hal
  go_enter Tryz.func24, Tryz.ntmps24
  go_wp2_with fail
  refine (HD.out _).mono ?_
  rintro e w1 ⟨hu, hb⟩
  unfold DdEnd at hu
  rw [HM.out] at hu
  simp only at hu
  rw [if_pos HL.out] at hu
  obtain ⟨g, A', c', rfl, _, hblk, _⟩ := hu
  rw [HD2.out] at hblk
  have HR1 := Kp.mk (blk_new (o := .cells #[.string ⟨#[]⟩] 44) hb)
  have HB1 := Kp.mk (bel_new hb)
  have hcv := rd_string (HR.out.below HB1.out) 77 9 Tryz.underlying77 Tryz.underlying9
  have c0 := blk_cell hblk 0
  have c2 := blk_cell hblk 2
  have d0 := blk_cell HR1.out 0
  have f0 := blk_frozen HR1.out 0
  clear hb HD hblk
  go_wp2_with fail
  refine bodyPost_ret (res_cell2 rfl _ _ w.heap.size 44 #[.string (strB (18 :: 32 :: d))] _ rfl (blk_set HR1.out 0 _) Tryz.underlying44 rfl (by kernel_rfl)) rfl ?_
  exact ⟨rfl, bel_set HB1.out (Nat.le_refl _) _⟩

set_option maxHeartbeats 4000000 in
set_option maxRecDepth 100000 in
/-- cid.NewCidV0 of a multihash that is fit. -/
theorem newV0_calls (A : Option Addr) (c : Nat) (d : List UInt8) (w : World) (hr : RdB w A 34 c (18 :: 32 :: d)) (he : MhErrs w) (hd : d.length = 32) :
    Calls Tryz.prog 18 #[.slice A 34 c] w fun e w' => e = .returned (.agg #[.string (strB (18 :: 32 :: d))]) ∧ Below w.heap.size w w' := by
  have hal := fun ob => bel_alloc (Below.refl w.heap.size w) ob
  have HD := Kp.mk (fun ob => tryV0_calls A c d (w.alloc ob) (hr.below (hal ob)) (he.below (hal ob)) hd)
  clear hr he hd hal
  go_enter Tryz.func18, Tryz.ntmps18
  go_wp2_with fail
  refine (HD.out _).mono ?_
  rintro e w1 ⟨rfl, hb⟩
  have HR1 := Kp.mk (blk_new (o := .cells #[.string ⟨#[]⟩] 44) hb)
  have HB1 := Kp.mk (bel_new hb)
  have d0 := fun ob => blk_cell (blk_keep HR1.out (bel_alloc (Below.refl _ _) ob)) 0
  have f0 := fun ob => blk_frozen (blk_keep HR1.out (bel_alloc (Below.refl _ _) ob)) 0
  clear hb HD
  go_wp2_with fail
  refine bodyPost_ret (res_cell1 rfl _ _ w.heap.size 44 #[.string (strB (18 :: 32 :: d))] _ rfl ?_ Tryz.underlying44 rfl (by kernel_rfl)) rfl ?_
  · first
    | exact blk_keep (blk_set HR1.out 0 _) (bel_alloc (Below.refl _ _) _)
    | exact blk_set (blk_keep HR1.out (bel_alloc (Below.refl _ _) _)) 0 _
  · first
    | exact ⟨rfl, bel_alloc (bel_set HB1.out (Nat.le_refl _) _) _⟩
    | exact ⟨rfl, bel_set (bel_alloc HB1.out _) (Nat.le_refl _) _⟩

theorem no_u8_b {x : Bool} (i : Nat) (z : Int) : (#[.bool x] : Array Value)[i]? ≠ some (.int .u8 z) := by
  rcases i with _ | i <;> simp

























/-- What the operations of the region leave. -/
def ci0R (r p s' : Nat) (A : Option Addr) (c : Nat) (S : ByteArray) (j : Nat) (v : Value) (w : World) : Prop :=
  match j with
  | 0 => v = .slice A 34 c
  | 1 => v = .agg #[.string S]
  | 2 => v = .pointer (some ⟨r, 1, none⟩)
  | 3 => v = .int .u64 112
  | 4 => v = .bool true
  | 5 => w.heap[p]? = some (.cells #[.string S] 44 (0, 0))
  | 6 => w.heap[s']? = some (.cells #[.bool true] 4 (0, 0))
  | _ => True

set_option maxHeartbeats 4000000 in
set_option maxRecDepth 100000 in
/-- impl.cidIn of one of version 0. -/
theorem cidIn0_calls (s : ByteArray) (w : World) (hs : s.size = 32) (he : MhErrs w) :
    Calls Tryz.prog 11 #[.agg #[.int .u64 0, .int .u64 112, .int .u64 18, .string s]] w fun e w' => e = .returned (.tuple #[.agg #[.string (strB (18 :: 32 :: bl s))], .bool true]) ∧ Below w.heap.size w w' := by
  have hmf : ∀ (fn : Fn) (first cap : Array Value) (w : World), (Instr.makeFunc fn first cap).run Tryz.prog w = .ok (.func fn first cap) w := fun _ _ _ _ => rfl
  have hkb := fun W => Lib.run_convert_string_bytes (P := Tryz.prog) W 9 33 5 s Tryz.underlying9 Tryz.underlying33 Tryz.underlying5
  have hbc : ∀ o1 o2, (Lib.bytesWorld (((w.alloc (.cells #[.int .u64 0, .int .u64 112, .int .u64 18, .string s] 24)).alloc o1).alloc o2) 5 s).cell? ⟨w.heap.size, 2, none⟩ = some (.int .u64 18) := fun o1 o2 =>
    blk_cell (blk_keep (blk_new (w := w) (bel_alloc (bel_alloc (Below.refl _ _) o1) o2)) (bel_bytes (Below.refl _ _) _ s)) 2
  have HX := Kp.mk hs
  have HE := Kp.mk he
  clear hs he
  go_enter_defers Tryz.func11, Tryz.ntmps11
  go_wp2_with fail
  generalize hW0 : ((w.alloc _).alloc _).alloc _ = W0
  have hr0 : W0.heap[w.heap.size]? = some (.cells #[.int .u64 0, .int .u64 112, .int .u64 18, .string s] 24 (0, 0)) := by rw [← hW0]; exact blk_new (bel_alloc (bel_alloc (Below.refl _ _) _) _)
  have hr1 : W0.heap[w.heap.size + 1]? = some (.cells #[.string ⟨#[]⟩] 44 (0, 0)) := by rw [← hW0]; exact blk_new2 (bel_alloc (Below.refl _ _) _)
  have hr2 : W0.heap[w.heap.size + 1 + 1]? = some (.cells #[.bool false] 4 (0, 0)) := by
    rw [← hW0]; have := blk_new2 (w := w.alloc (.cells #[.int .u64 0, .int .u64 112, .int .u64 18, .string s] 24)) (o := .cells #[.string ⟨#[]⟩] 44) (o2 := .cells #[.bool false] 4) (Below.refl _ _)
    simpa [World.alloc, -World.alloc_eq] using this
  have hb0 : Below w.heap.size w W0 := by rw [← hW0]; exact bel_alloc (bel_alloc (bel_alloc (Below.refl _ _) _) _) _
  have hs0 : W0.heap.size = w.heap.size + 1 + 1 + 1 := by rw [← hW0]; simp [World.alloc, -World.alloc_eq]
  have hrd := rd_bytes W0 5 s (by have := HX.out; omega)
  rw [hs0] at hrd
  generalize hgc : grownCap W0 s.size 0 5 = gc at *
  have hb1 : Below W0.heap.size W0 (Lib.bytesWorld W0 5 s) := bel_bytes (Below.refl _ _) _ _
  generalize hW1 : Lib.bytesWorld W0 5 s = W1 at *
  have hbl : (bl s).length = 32 := by rw [bl_length]; exact HX.out
  have hml : (mhBytes 18 (bl s)).length = 34 := by rw [← cid0_bytes hbl]; simp [hbl]
  have hmb : mhBytes 18 (bl s) = 18 :: 32 :: bl s := (cid0_bytes hbl).symm
  have hEn := mhEncode_calls _ _ _ _ 18 _ W1 hrd (by omega) (by have := HX.out; omega)
  rw [hml, hmb] at hEn
  have HEn := Kp.mk hEn
  have HBL := Kp.mk hbl
  have HR0 := Kp.mk (blk_keep hr0 hb1)
  have HR1 := Kp.mk (blk_keep hr1 hb1)
  have HR2 := Kp.mk (blk_keep hr2 hb1)
  have HB1 := Kp.mk (bel_then hb0 hb1)
  clear hW0 hr0 hr1 hr2 hb0 hs0 hrd hgc hb1 hW1 hkb hbc hmf hEn hbl hml hmb
  refine HEn.out.mono ?_
  rintro e w2 ⟨⟨rfl, hrd⟩, hb⟩
  have HQ := Kp.mk (blk_keep HR0.out hb)
  have HR := Kp.mk (blk_keep HR1.out hb)
  have HS := Kp.mk (blk_keep HR2.out hb)
  have HB := Kp.mk (bel_then HB1.out hb)
  have HRD := Kp.mk hrd
  have hr3 : w.heap.size + 1 + 1 < w2.heap.size := (Array.getElem?_eq_some_iff.1 HS.out).1
  have c0 := blk_cell HQ.out 0
  clear hb HR0 HR1 HR2 HB1 HEn hrd
  go_wp2_with fail
  clear c0
  refine wp_region_growR (Two w.heap.size (w.heap.size + 1) (w.heap.size + 1 + 1) (.cells #[.string ⟨#[]⟩] 44 (0, 0)) (.cells #[.string (strB (18 :: 32 :: bl s))] 44 (0, 0)) (.cells #[.bool false] 4 (0, 0)) (.cells #[.bool true] 4 (0, 0))) (fun _ => Two.refl _ _ _ _ _ _ _ _) (fun _ _ _ h k => h.trans k) (by kernel_rfl) 7 (by decide) (apart_of (by kernel_rfl)) (by kernel_rfl) (ci0R w.heap.size (w.heap.size + 1) (w.heap.size + 1 + 1) (some ⟨W1.heap.size, 0, none⟩) 34 (strB (18 :: 32 :: bl s))) (fun _ _ _ _ => True) (fun _ _ _ _ h hb => by unfold ci0R at *; split at h <;> first | exact h | exact hb.2.2.1.1 h | exact hb.2.2.2.1 h) ?_ ?_
  · intro j hj ob ho vs w5 hb5 hpre
    have hsz5 : w2.heap.size ≤ w5.heap.size := hb5.1.size
    have HB5 : Kp (Below w.heap.size w w5) := ⟨HB.out.trans ((bel_drewN (Below.refl w.heap.size w2) 1).trans hb5.1)⟩
    have HX5 : Kp (Ex (fun k => k = w.heap.size + 1 ∨ k = w.heap.size + 1 + 1) w2 w5) := ⟨⟨hb5.1.os, hb5.1.tape, hb5.1.output, hb5.1.size, fun k hk hp => hb5.2.1 k hk (fun e => hp (.inl e)) (fun e => hp (.inr e))⟩⟩
    rcases j with _ | _ | _ | _ | _ | _ | _ | j
    · obtain rfl := Option.some.inj ho
      simp only [canon, List.range, List.range.loop, List.foldl]
      go_simp
      exact ⟨rfl, Two.refl _ _ _ _ _ _ _ _⟩
    · have e0 : vs 0 = _ := hpre 0 (by decide) (by obtain rfl := Option.some.inj ho; rfl)
      obtain rfl := Option.some.inj ho
      simp only [canon, List.range, List.range.loop, List.foldl]
      go_simp
      refine (newV0_calls _ _ (bl s) w5 (HRD.out.exN HX5.out (fun j h => h.elim (fun e => by rw [e]; exact ⟨_, _, HR.out, no_u8_1⟩) (fun e => by rw [e]; exact ⟨_, _, HS.out, no_u8_b⟩))) (HE.out.below HB5.out) HBL.out).mono ?_
      rintro e6 w6 ⟨rfl, hb6⟩
      exact ⟨rfl, Two.of_below hb6 (by omega) (by omega) (by omega)⟩
    · obtain rfl := Option.some.inj ho
      simp only [canon, List.range, List.range.loop, List.foldl]
      go_simp
      exact ⟨rfl, Two.refl _ _ _ _ _ _ _ _⟩
    · have e2 : vs 2 = _ := hpre 2 (by decide) (by obtain rfl := Option.some.inj ho; rfl)
      have hq := HX5.out.keep HQ.out (fun h => h.elim (fun e => by omega) (fun e => by omega))
      have c1 := blk_cell hq 1
      obtain rfl := Option.some.inj ho
      simp only [canon, List.range, List.range.loop, List.foldl]
      go_simp
      exact ⟨rfl, Two.refl _ _ _ _ _ _ _ _⟩
    · have e3 : vs 3 = _ := hpre 3 (by decide) (by obtain rfl := Option.some.inj ho; rfl)
      obtain rfl := Option.some.inj ho
      simp only [canon, List.range, List.range.loop, List.foldl]
      go_simp
      exact ⟨rfl, Two.refl _ _ _ _ _ _ _ _⟩
    · have e1 : vs 1 = _ := hpre 1 (by decide) (by obtain rfl := Option.some.inj ho; rfl)
      have hst := two_fst (B := w.heap.size) (r := w.heap.size + 1) (s := w.heap.size + 1 + 1) (a := #[.string ⟨#[]⟩]) (c := #[.string (strB (18 :: 32 :: bl s))]) (w := w5) (D := (.cells #[.bool false] 4 (0, 0))) (E := (.cells #[.bool true] 4 (0, 0))) [.string (strB (18 :: 32 :: bl s))] (hb5.2.2.1.2 HR.out) rfl rfl (by omega) (by omega)
      obtain ⟨⟨x0, c0⟩, f0⟩ := two_cell (hb5.2.2.1.2 HR.out) 0 (Nat.le_of_ble_eq_true rfl) (Nat.le_of_ble_eq_true rfl)
      simp only [putAll] at hst
      obtain rfl := Option.some.inj ho
      simp only [canon, List.range, List.range.loop, List.foldl]
      go_simp
      exact ⟨undef, hst.1⟩
    · have e4 : vs 4 = _ := hpre 4 (by decide) (by obtain rfl := Option.some.inj ho; rfl)
      have hst := two_snd (B := w.heap.size) (r := w.heap.size + 1) (s := w.heap.size + 1 + 1) (a := #[.bool false]) (c := #[.bool true]) (w := w5) (A := (.cells #[.string ⟨#[]⟩] 44 (0, 0))) (C := (.cells #[.string (strB (18 :: 32 :: bl s))] 44 (0, 0))) [.bool true] (hb5.2.2.2.2 HS.out) rfl rfl (by omega) (by omega)
      obtain ⟨⟨x0, c0⟩, f0⟩ := two_cell (hb5.2.2.2.2 HS.out) 0 (Nat.le_of_ble_eq_true rfl) (Nat.le_of_ble_eq_true rfl)
      simp only [putAll] at hst
      obtain rfl := Option.some.inj ho
      simp only [canon, List.range, List.range.loop, List.foldl]
      go_simp
      exact ⟨undef, hst.1⟩
    · omega
  · intro vs w5 hb5 hr5 _
    have hV := hr5 5 (by omega)
    have hS := hr5 6 (by omega)
    have HB5 : Kp (Below w.heap.size w w5) := ⟨HB.out.trans ((bel_drewN (Below.refl w.heap.size w2) 1).trans hb5.1)⟩
    clear hb5 hr5
    refine wpAny_none (by kernel_rfl) ?_ _
    generalize hA : canon _ _ vs 7 = FR
    have h6 : FR.tmps[2]? = some (.pointer (some ⟨w.heap.size + 1, 0, none⟩)) := by rw [← hA, canon_keep _ (by kernel_rfl)]; rfl
    have h7 : FR.tmps[3]? = some (.pointer (some ⟨w.heap.size + 1 + 1, 0, none⟩)) := by rw [← hA, canon_keep _ (by kernel_rfl)]; rfl
    have hD := (congrArg Act.defers hA.symm).trans (canon_defers _ _ _ 7)
    clear hA
    go_wp2
    simp only [bodyPostD]
    rw [hD]
    refine leaves_cons (f := 16) (args := #[.pointer (some ⟨w.heap.size + 1, 0, none⟩), .pointer (some ⟨w.heap.size + 1 + 1, 0, none⟩)]) (by simp) (by simp [go_sem]) ?_
    refine (cidIn_idle _ _ _).mono ?_
    rintro e u' w'' ⟨rfl, rfl, rfl⟩
    refine ⟨_, res_cells2 rfl _ _ (w.heap.size + 1) 44 #[.string (strB (18 :: 32 :: bl s))] _ ⟨w.heap.size + 1 + 1, 0, none⟩ (.bool true) (by rw [Array.getD_eq_getD_getElem?, h6]; rfl) (by rw [Array.getD_eq_getD_getElem?, h7]; rfl)
      hV Tryz.underlying44 rfl (by kernel_rfl) Tryz.isAgg4 (blk_cell hS 0), rfl, HB5.out⟩






end Go.Proofs.YtnhnkfdhkifahaaGreatDoor
