/- The walk of carv1.zzDecodeHeader. Printed by gen-zzhead.py. -/
import Derived.Test.YtkcpgcaccgahaaaGreatDoorZzRoots
import Derived.Test.YtkcpgcaccgahaaaGreatDoorNewRd
import Derived.Test.YtkcpgcaccgahaaaGreatDoorSrcB
namespace Go.Proofs.YtkcpgcaccgahaaaGreatDoor
open Go.RowKit

theorem cbItem_val {bs : List UInt8} {k : Nat} {tk : Tk} {r : List UInt8} (h : cbItem (bs.drop k) = some (tk, r)) (hn : ∀ s, tk ≠ .byt s) : ∃ b, bs[k]? = some b ∧ cbVal b (bs.drop (k + 1)) = some (tk, r) := by
  obtain ⟨b, r0, hr0, hc⟩ := cbItem_cases h
  have hv : cbVal b r0 = some (tk, r) := by
    rcases hc with ⟨s, _, _, _, h, _⟩ | ⟨_, h⟩
    · exact absurd h (hn s)
    · exact h
  have hx : bs[k]? = some b := by have := congrArg (fun l => l[0]?) hr0; simpa [List.getElem?_drop] using this
  have hr1 : r0 = bs.drop (k + 1) := by have := congrArg (fun l => l.drop 1) hr0; simpa [List.drop_drop] using this.symm
  exact ⟨b, hx, hr1 ▸ hv⟩
set_option maxHeartbeats 800000 in
theorem zzNewRdr_calls (ga n c : Nat) (w : World) :
    Calls Tryz.prog 41 #[.slice (some ⟨ga, 0, none⟩) n c] w fun e' w' => e' = .returned (.pointer (some ⟨w.heap.size, 0, none⟩)) ∧ w' = w.alloc (.cells #[.slice (some ⟨ga, 0, none⟩) n c, .int .i64 0, .int .i64 (-1)] 139) := by
  go_enter Tryz.func41, Tryz.ntmps41
  go_wp2
  go_ret
  exact ⟨rfl, rfl⟩
/-- What holds ahead of each round. -/
structure HdI (T : TypeId) (pv : Value) (bs : List UInt8) (S : Nat → World → Prop) (gz gs gd gk gl gt gh base : Nat) (L : List (List UInt8)) (v : Nat) (rF : List UInt8) (w : World) (k j : Nat) (l : List (List UInt8)) (x : Nat) (A : Option Addr) (cap : Nat) (wr : World) : Prop where
  dec : DecS T pv S gz gs gd gk gl 5 [0] [j] k wr
  rest : decMap j (bs.drop k) l x = some ((L, v), rF)
  own : OwnR base wr A cap l
  hdr : wr.heap[gh]? = some (.cells #[.slice A l.length cap, .int .u64 x] 133 (0, 0))
  tok : ∃ tcs : Array Value, wr.heap[gt]? = some (.cells tcs 192 (0, 0)) ∧ tcs.size = 10
  ex : Ex (fun y => y = gh) w wr
  bse : base ≤ wr.heap.size
  few : j ≤ 1000

theorem decMap_succ {j x : Nat} {r rF : List UInt8} {l : List (List UInt8)} {R : List (List UInt8) × Nat} (h : decMap (j + 1) r l x = some (R, rF)) : ∃ s r1, cbItem r = some (.str s, r1) ∧ ((s = txVersion ∧ ∃ y r2, cbItem r1 = some (.uint y, r2) ∧ decMap j r2 l y = some (R, rF)) ∨ (s = txRoots ∧ ∃ m r2 l' r3, cbItem r1 = some (.arr m, r2) ∧ decLinks m r2 = some (l', r3) ∧ decMap j r3 l' x = some (R, rF))) := by
  rw [decMap] at h
  split at h
  · rename_i s r1 hit
    refine ⟨s, r1, hit, ?_⟩
    split at h
    · rename_i hs
      split at h
      · rename_i y r2 h2; exact .inl ⟨hs, y, r2, h2, h⟩
      · cases h
    · split at h
      · rename_i hs
        split at h
        · rename_i m r2 h2
          split at h
          · cases h
          · rename_i l' r3 h3; exact .inr ⟨hs, m, r2, l', r3, h2, h3, h⟩
        · cases h
      · cases h
  · cases h
theorem deO_bd {O D : Nat → Prop} {gz gs gd gk gl gt x : Nat} (hO : ∀ y, O y → D y) (h : deO O gz gs gd gk gl gt x) : deD D gz gs gd gk gl x ∨ x = gt := by
  rcases h with ((h | h) | h) | h | h
  · exact .inl (.inl (.inl (hO _ h)))
  · exact .inl (.inl (.inr (.inl h)))
  · exact .inl (.inl (.inr (.inr h)))
  · exact .inr h
  · exact .inl (.inr h)
theorem hd_left {T : TypeId} {pv : Value} {S : Nat → World → Prop} {gz gs gd gk gl ph k n : Nat} {stk : List Nat} {w : World} (h : DecS T pv S gz gs gd gk gl ph stk [n] k w) : w.cell? ⟨gl, 0, none⟩ = some (.int .i64 (n : Int)) := by
  obtain ⟨cl, h5, _, h5v⟩ := h.lb
  exact (blk_cell h5 0).trans (h5v 0 n rfl)

set_option maxHeartbeats 8000000 in
set_option maxRecDepth 100000 in
/-- carv1.zzDecodeHeader. -/
theorem zzHead_calls (ga n c gh : Nat) (bs : List UInt8) (ve vu vo vn : Value) (w0 w : World) (hb0 : Below w0.heap.size w0 w) (he : RdErrs ve vu vo vn w0) (hce : CdErrs w0) (hr : RdB w (some ⟨ga, 0, none⟩) n c bs) (hga : ga < w.heap.size) (hn : n ≤ 4611686018427387904) (hh : w.heap[gh]? = some (.cells #[.slice none 0 0, .int .u64 0] 133 (0, 0))) (hgh : w0.heap.size ≤ gh) (hgg : gh ≠ ga) (L : List (List UInt8)) (v : Nat) (rF : List UInt8) (hd : decHead bs = some ((L, v), rF)) :
    Calls Tryz.prog 78 #[.slice (some ⟨ga, 0, none⟩) n c, .pointer (some ⟨gh, 0, none⟩)] w fun e w' => e = .returned .nilIface ∧ (∃ A cap, OwnR w.heap.size w' A cap L ∧ w'.heap[gh]? = some (.cells #[.slice A L.length cap, .int .u64 v] 133 (0, 0))) ∧ Ex (fun x => x = gh) w w' := by
  have H : Src 104 (.pointer (some ⟨w.heap.size, 0, none⟩)) 224 (bs.drop 0) ve vu vo vn (· = w.heap.size) (brD w0 w.heap.size ga) (BrS w0 w.heap.size ga n c 0 bs) := srcB w.heap.size ga n c 0 bs ve vu vo vn w0 he hb0.size hga hn
  have hce' : ∀ k W, BrS w0 w.heap.size ga n c 0 bs k W → CdErrs W := fun k W h => hce.below h.old
  obtain ⟨m, r1, hit, hdm⟩ : ∃ m r1, cbItem bs = some (.map m, r1) ∧ decMap m r1 [] 0 = some ((L, v), rF) := by
    unfold decHead at hd
    split at hd
    · rename_i m r1 h; exact ⟨m, r1, h, hd⟩
    · cases hd
  rw [← List.drop_zero (l := bs)] at hit
  rw [← List.drop_zero (l := bs.drop 0)] at hit
  obtain ⟨b, hx, hv⟩ := cbItem_val hit (fun s h => by cases h)
  obtain ⟨w1, hw1⟩ : ∃ w1, w1 = w.alloc (.cells #[.slice (some ⟨ga, 0, none⟩) n c, .int .i64 0, .int .i64 (-1)] 139) := ⟨_, rfl⟩
  have hg1 : RdrAt w1 w.heap.size ga n c 0 (-1) := by rw [hw1]; exact blk_new (w := w) (Below.refl _ _)
  have hb1 : Below w.heap.size w w1 := by rw [hw1]; exact bel_alloc (Below.refl _ _) _
  have hS1 : BrS w0 w.heap.size ga n c 0 bs 0 w1 := BrS.start (hb0.trans (hb1.mono hb0.size)) hg1 (hr.below hb1) (Nat.zero_le _)
  have hD1 := H.old 0 w1 hS1
  have HC1 := Kp.mk (zzNewRdr_calls ga n c w)
  have HC2 := Kp.mk (newDec_calls _ _ _ _ _ _ _ _ _ _ _ H 0 w1 hS1)
  have hgw := (Array.getElem?_eq_some_iff.1 hh).1
  have HW1 := Kp.mk hw1
  have HH := Kp.mk (And.intro H hce')
  have HX := Kp.mk (And.intro hb0 (And.intro hgh (And.intro hgg (And.intro hh (And.intro hb1 (And.intro hgw (And.intro hga hD1)))))))
  have HT := Kp.mk (And.intro hx (And.intro hv hdm))
  clear H hce' he hce hr hd hit hx hv hg1 hS1 hw1 hb0 hgh hgg hh hb1 hgw hdm hga hD1
  go_enter Tryz.func78, Tryz.ntmps78
  go_wp2_with fail
  refine HC1.out.mono ?_
  rintro e w1' ⟨rfl, rfl⟩
  rw [← HW1.out]
  clear HC1 HW1
  go_wp2_with fail
  refine HC2.out.mono ?_
  rintro e w2 ⟨gz, gs, gd, gk, gl, rfl, hz, hzs, hge, hdd, hS2, hb2⟩
  have hws := HX.out.2.2.2.2.1.size
  have hlt := hS2.lt HH.out.1
  obtain ⟨gt, hgt⟩ : ∃ gt, gt = w2.heap.size := ⟨_, rfl⟩
  have hal := bel_alloc (Below.refl w2.heap.size w2) (.cells #[.int .u8 0, .int .i64 0, .string ⟨#[]⟩, .slice none 0 0, .bool false, .int .i64 0, .int .u64 0, .float .f64 0, .bool false, .int .i64 0] 192)
  have ht2 := blk_new (w := w2) (o := .cells #[.int .u8 0, .int .i64 0, .string ⟨#[]⟩, .slice none 0 0, .bool false, .int .i64 0, .int .u64 0, .float .f64 0, .bool false, .int .i64 0] 192) (Below.refl _ _)
  rw [← hgt] at ht2
  have hS3 := hS2.frame HH.out.1 (Ex.of_below hal)
  have hN : DecN (brD w0 w.heap.size ga) gz gs gd gk gl gt := ⟨hdd.1, hdd.2.1, hdd.2.2.1, fun h => by have := hlt _ (.inl h); omega, by have := hlt gd (.inr (.inl rfl)); omega, by have := hlt gk (.inr (.inr (.inl rfl))); omega, by have := hlt gl (.inr (.inr (.inr rfl))); omega, hdd.2.2.2.1, hdd.2.2.2.2.1, hdd.2.2.2.2.2⟩
  obtain ⟨hx, hv, hdm⟩ := HT.out
  have hzD : ¬ brD w0 w.heap.size ga gz := fun h => by have := HX.out.2.2.2.2.2.2.2 _ h; omega
  have hsD : ¬ brD w0 w.heap.size ga gs := fun h => by have := HX.out.2.2.2.2.2.2.2 _ h; omega
  have hzs' : gz ≠ gs := by omega
  have HC3 := Kp.mk (step0_calls gd gs gt _ _ _ _ hS3.d (openIn_calls _ _ _ _ _ _ _ _ _ _ _ HH.out.1 gz gs hzD hsD hzs' gd gk gl gt 0 _ #[.int .u8 0, .int .i64 0, .string ⟨#[]⟩, .slice none 0 0, .bool false, .int .i64 0, .int .u64 0, .float .f64 0, .bool false, .int .i64 0] b m r1 hN hS3 ht2 rfl hx hv))
  have hghD : ¬ deD (brD w0 w.heap.size ga) gz gs gd gk gl gh := by
    have h1 := HX.out.2.1
    have h2 := HX.out.2.2.1
    have h3 := HX.out.2.2.2.2.2.1
    rintro ((h | h | h) | h | h | h)
    · rcases h with h | h | h <;> omega
    all_goals omega
  have hlow : ∀ x, deO (· = w.heap.size) gz gs gd gk gl gt x → w.heap.size ≤ x := by
    have h1 := hb2.size
    rintro x (((h | h) | h) | h | h | h | h)
    · have h : x = w.heap.size := h
      omega
    all_goals omega
  have hgtn : gh ≠ gt := by have := HX.out.2.2.2.2.2.1; have := hb2.size; omega
  have HG := Kp.mk (And.intro hghD (And.intro hlow hgtn))
  have HB2 := Kp.mk (And.intro hz (And.intro hzs (And.intro hge (And.intro hdd (And.intro hb2 (And.intro hws (And.intro hgt (And.intro hal (And.intro hlt (And.intro hzD (And.intro hsD hzs')))))))))))
  have HN := Kp.mk hN
  clear hz hzs hge hdd hS2 hb2 hws hlt hal ht2 hS3 hN hx hv hzD hsD hzs' HC2 hghD hlow hgtn
  go_wp2_with fail
  rw [← HB2.out.2.2.2.2.2.2.1]
  clear hgt
  refine HC3.out.mono ?_
  rintro e w4 ⟨rfl, ⟨k1, hk1, hS4⟩, ⟨tcs, ht4, hts, ht40, _⟩, hx4⟩
  have c0 : w4.cell? ⟨gt, 0, none⟩ = some (.int .u8 123) := (blk_cell ht4 0).trans ht40
  obtain ⟨base, hbase⟩ : ∃ base, base = w4.heap.size := ⟨_, rfl⟩
  have HI : Kp (HdI 104 (.pointer (some ⟨w.heap.size, 0, none⟩)) (bs.drop 0) (BrS w0 w.heap.size ga n c 0 bs) gz gs gd gk gl gt gh base L v rF w k1 m [] 0 none 0 w4) := by
    have hO : ∀ x, deO (· = w.heap.size) gz gs gd gk gl gt x → deD (brD w0 w.heap.size ga) gz gs gd gk gl x ∨ x = gt := fun x h => deO_bd HH.out.1.own h
    have hbb : Below w.heap.size w w4 := (HX.out.2.2.2.2.1.trans ((HB2.out.2.2.2.2.1.mono HX.out.2.2.2.2.1.size).trans (HB2.out.2.2.2.2.2.2.2.1.mono (Nat.le_trans HX.out.2.2.2.2.1.size HB2.out.2.2.2.2.1.size)))).trans (hx4.toBelow (fun j hj h => by have := HG.out.2.1 j h; omega) (Nat.le_trans (Nat.le_trans HX.out.2.2.2.2.1.size HB2.out.2.2.2.2.1.size) HB2.out.2.2.2.2.2.2.2.1.size))
    refine ⟨hS4, ?_, ⟨rfl, .inl ⟨rfl, rfl⟩⟩, blk_keep HX.out.2.2.2.1 hbb, ⟨tcs, ht4, hts⟩, Ex.of_below hbb, Nat.le_of_eq hbase, ?_⟩
    · rw [← hk1]; exact hdm
    · obtain ⟨_, ha⟩ := cbVal_map HT.out.2.1
      have := (cbArg_lt ha).1
      omega
  have hbd : ∀ x, deD (brD w0 w.heap.size ga) gz gs gd gk gl x ∨ x = gt ∨ x = gh → x < base := by
    rw [hbase]
    rintro x (h | rfl | rfl)
    · exact hS4.lt HH.out.1 _ h
    · exact (Array.getElem?_eq_some_iff.1 ht4).1
    · exact (Array.getElem?_eq_some_iff.1 HI.out.hdr).1
  have hres : ∀ W, Ex (fun x => x = gh ∨ deO (· = w.heap.size) gz gs gd gk gl gt x) w W → Ex (fun x => x = gh) w W := fun W h => ⟨h.os, h.tape, h.output, h.size, fun i hi hn => h.block i hi (fun e => e.elim hn (fun e => by have := HG.out.2.1 i e; omega))⟩
  have HBD := Kp.mk (And.intro hbd hres)
  have hdb : ∀ x, deO (· = w.heap.size) gz gs gd gk gl gt x → x < base := fun x h => hbd x ((deO_bd HH.out.1.own h).elim .inl (fun e => .inr (.inl e)))
  have hdn : ¬ deO (· = w.heap.size) gz gs gd gk gl gt gh := fun h => (deO_bd HH.out.1.own h).elim HG.out.1 HG.out.2.2
  have HDB := Kp.mk (And.intro hdb hdn)
  have hwb : w.heap.size ≤ base := by rw [hbase]; exact HI.out.ex.size
  have HWB := Kp.mk hwb
  clear hbd hres hdb hdn hwb
  have HBS := Kp.mk hbase
  clear hk1 hS4 ht4 hts ht40 hx4 hbase hdm HC3
  go_wp2_with fail
  clear c0
  go_loopw [7] (fun d wr => d = .bool false ∧ ∃ (k j : Nat) (l : List (List UInt8)) (x : Nat) (A : Option Addr) (cap : Nat), Kp (HdI 104 (.pointer (some ⟨w.heap.size, 0, none⟩)) (bs.drop 0) (BrS w0 w.heap.size ga n c 0 bs) gz gs gd gk gl gt gh base L v rF w k j l x A cap wr)) (fun _ wr => match wr.cell? ⟨gl, 0, none⟩ with | some (.int _ z) => z.toNat | _ => 0)
  case atStart => exact ⟨rfl, k1, m, [], 0, none, 0, HI⟩
  case round =>
    obtain ⟨rfl, k2, j, l, x, A, cap, HJ⟩ := hrel
    have HTH := HJ.out.tok
    obtain ⟨tcs, ht, hts⟩ := HTH
    have HTH := Kp.mk (tok_there ht hts)
    obtain ⟨W5, hW5⟩ : ∃ W5, W5 = wr.setCells gt 0 [.int .u8 0, .int .i64 0, .string ⟨#[]⟩, .slice none 0 0, .bool false, .int .i64 0, .int .u64 0, .float .f64 0, .bool false, .int .i64 0] := ⟨_, rfl⟩
    have hxt : Ex (fun x => x = gt) wr W5 := hW5 ▸ Ex.setCells (P := fun x => x = gt) rfl _ _ (Ex.refl _ _)
    have hdt : DecS 104 (.pointer (some ⟨w.heap.size, 0, none⟩)) (BrS w0 w.heap.size ga n c 0 bs) gz gs gd gk gl 5 [0] [j] k2 W5 := HJ.out.dec.frame HH.out.1 (hxt.mono (fun x hx hd => by subst hx; rcases hd with h | h | h | h; exact HN.out.nt h; exact HN.out.td h; exact HN.out.tk h; exact HN.out.tl h))
    have htt : W5.heap[gt]? = some (.cells #[.int .u8 0, .int .i64 0, .string ⟨#[]⟩, .slice none 0 0, .bool false, .int .i64 0, .int .u64 0, .float .f64 0, .bool false, .int .i64 0] 192 (0, 0)) := hW5 ▸ tok_put ht hts
    have HW5 := Kp.mk hW5
    rcases j with _ | j
    · have HC := Kp.mk (stepEnd_calls _ _ _ _ _ _ _ _ _ _ _ HH.out.1 gz gs gd gk gl gt k2 _ #[.int .u8 0, .int .i64 0, .string ⟨#[]⟩, .slice none 0 0, .bool false, .int .i64 0, .int .u64 0, .float .f64 0, .bool false, .int .i64 0] HN.out hdt htt rfl)
      have HXT := Kp.mk hxt
      clear ht hts hxt hdt htt hW5
      go_wp2_with (first | (refine wpList_store_mid rfl 192 _ _ rfl _ _ #[.int .u8 0, .int .i64 0, .string ⟨#[]⟩, .slice none 0 0, .bool false, .int .i64 0, .int .u64 0, .float .f64 0, .bool false, .int .i64 0] rfl rfl HTH.out (by kernel_rfl) (by simp [Value.oneCell']) ?_; rw [← (HW5.out : W5 = wr.setCells gt 0 (#[.int .u8 0, .int .i64 0, .string ⟨#[]⟩, .slice none 0 0, .bool false, .int .i64 0, .int .u64 0, .float .f64 0, .bool false, .int .i64 0] : Array Value).toList)]))
      refine HC.out.mono ?_
      rintro e w6 ⟨rfl, hd6, ⟨tcs6, ht6, _, ht60, _⟩, hx6⟩
      have c0 : w6.cell? ⟨gt, 0, none⟩ = some (.int .u8 125) := (blk_cell ht6 0).trans ht60
      have HE := Kp.mk (And.intro hd6 hx6)
      clear hd6 ht6 ht60 hx6 HC HTH
      go_wp2_with fail
      go_ret
      have hr := HJ.out.rest
      simp only [decMap, Option.some.injEq, Prod.mk.injEq] at hr
      obtain ⟨⟨rfl, rfl⟩, _⟩ := hr
      have hx : Ex (fun x => deO (· = w.heap.size) gz gs gd gk gl gt x) wr w6 := (HXT.out.mono (fun x hx => .inr (.inl hx))).trans HE.out.2
      exact ⟨rfl, ⟨A, cap, (HJ.out.own.keep hx HDB.out.1).mono HWB.out, hx.keep HJ.out.hdr HDB.out.2⟩, HBD.out.2 _ ((HJ.out.ex.mono (fun x hx => .inl hx)).trans (hx.mono (fun x hx => .inr hx)))⟩
    · obtain ⟨s, r2, hit, hcase⟩ := decMap_succ HJ.out.rest
      obtain ⟨b1, hx1, hv1⟩ := cbItem_val hit (fun s h => by cases h)
      have hfew := HJ.out.few
      have HC := Kp.mk (step5_calls gd gs gt _ _ W5 _ hdt.d (keyIn_calls _ _ _ _ _ _ _ _ _ _ _ HH.out.1 gz gs HB2.out.2.2.2.2.2.2.2.2.2.1 HB2.out.2.2.2.2.2.2.2.2.2.2.1 HB2.out.2.2.2.2.2.2.2.2.2.2.2 gd gk gl gt j k2 W5 #[.int .u8 0, .int .i64 0, .string ⟨#[]⟩, .slice none 0 0, .bool false, .int .i64 0, .int .u64 0, .float .f64 0, .bool false, .int .i64 0] b1 s r2 HN.out hdt htt rfl hx1 hv1 (by omega)))
      have HXT := Kp.mk hxt
      have HCS := Kp.mk (And.intro hcase hfew)
      clear ht hts hxt hdt htt hW5 hit hcase hx1 hv1 hfew
      go_wp2_with (first | (refine wpList_store_mid rfl 192 _ _ rfl _ _ #[.int .u8 0, .int .i64 0, .string ⟨#[]⟩, .slice none 0 0, .bool false, .int .i64 0, .int .u64 0, .float .f64 0, .bool false, .int .i64 0] rfl rfl HTH.out (by kernel_rfl) (by simp [Value.oneCell']) ?_; rw [← (HW5.out : W5 = wr.setCells gt 0 (#[.int .u8 0, .int .i64 0, .string ⟨#[]⟩, .slice none 0 0, .bool false, .int .i64 0, .int .u64 0, .float .f64 0, .bool false, .int .i64 0] : Array Value).toList)]))
      refine HC.out.mono ?_
      rintro e w6 ⟨rfl, ⟨k3, hk3, hd6⟩, ⟨tcs6, ht6, hts6, ht60, ht62⟩, hx6⟩
      have c0 : w6.cell? ⟨gt, 0, none⟩ = some (.int .u8 115) := (blk_cell ht6 0).trans ht60
      have hx6w : Ex (fun x => deO (· = w.heap.size) gz gs gd gk gl gt x) wr w6 := (HXT.out.mono (fun x hx => .inr (.inl hx))).trans hx6
      have c2 : w6.cell? ⟨gt, 2, none⟩ = some (.string (strB s)) := (blk_cell ht6 2).trans ht62
      obtain ⟨hcase, hfew⟩ := HCS.out
      clear HC HTH HW5 HXT hx6
      rcases hcase with ⟨rfl, y, r3, hit2, hdm⟩ | ⟨rfl, m', r3, l', r4, hit2, hdl, hdm⟩
      · replace c2 : w6.cell? ⟨gt, 2, none⟩ = some (.string ⟨#[118, 101, 114, 115, 105, 111, 110]⟩) := c2
        rw [hk3] at hit2
        obtain ⟨b2, hx2, hv2⟩ := cbItem_val hit2 (fun s h => by cases h)
        have HTH := Kp.mk (tok_there ht6 hts6)
        obtain ⟨W7, hW7⟩ : ∃ W7, W7 = w6.setCells gt 0 [.int .u8 0, .int .i64 0, .string ⟨#[]⟩, .slice none 0 0, .bool false, .int .i64 0, .int .u64 0, .float .f64 0, .bool false, .int .i64 0] := ⟨_, rfl⟩
        have hxt : Ex (fun x => x = gt) w6 W7 := hW7 ▸ Ex.setCells (P := fun x => x = gt) rfl _ _ (Ex.refl _ _)
        have hdt := hd6.frame HH.out.1 (hxt.mono (fun x hx hd => by subst hx; rcases hd with h | h | h | h; exact HN.out.nt h; exact HN.out.td h; exact HN.out.tk h; exact HN.out.tl h))
        have htt : W7.heap[gt]? = some (.cells #[.int .u8 0, .int .i64 0, .string ⟨#[]⟩, .slice none 0 0, .bool false, .int .i64 0, .int .u64 0, .float .f64 0, .bool false, .int .i64 0] 192 (0, 0)) := hW7 ▸ tok_put ht6 hts6
        have HW7 := Kp.mk hW7
        have HC := Kp.mk (step6_calls gd gs gt _ _ W7 _ hdt.d (valInU_calls _ _ _ _ _ _ _ _ _ _ _ HH.out.1 gz gs HB2.out.2.2.2.2.2.2.2.2.2.1 HB2.out.2.2.2.2.2.2.2.2.2.2.1 HB2.out.2.2.2.2.2.2.2.2.2.2.2 gd gk gl gt j k3 W7 #[.int .u8 0, .int .i64 0, .string ⟨#[]⟩, .slice none 0 0, .bool false, .int .i64 0, .int .u64 0, .float .f64 0, .bool false, .int .i64 0] b2 y r3 HN.out hdt htt rfl hx2 hv2))
        have HX6 := Kp.mk (hx6w.trans (hxt.mono (fun x hx => .inr (.inl hx))))
        have HDM := Kp.mk hdm
        clear hk3 hd6 ht6 hts6 ht60 ht62 hit2 hx2 hv2 hW7 hxt hdt htt hdm hx6w
        go_wp2_with (first | (refine wpList_store_mid rfl 192 _ _ rfl _ _ #[.int .u8 0, .int .i64 0, .string ⟨#[]⟩, .slice none 0 0, .bool false, .int .i64 0, .int .u64 0, .float .f64 0, .bool false, .int .i64 0] rfl rfl HTH.out (by kernel_rfl) (by simp [Value.oneCell']) ?_; rw [← (HW7.out : W7 = w6.setCells gt 0 (#[.int .u8 0, .int .i64 0, .string ⟨#[]⟩, .slice none 0 0, .bool false, .int .i64 0, .int .u64 0, .float .f64 0, .bool false, .int .i64 0] : Array Value).toList)]))
        refine HC.out.mono ?_
        rintro e w8 ⟨rfl, ⟨k4, hk4, hd8⟩, ⟨tcs8, ht8, hts8, ht80, ht86⟩, hx8⟩
        have c0' : w8.cell? ⟨gt, 0, none⟩ = some (.int .u8 117) := (blk_cell ht8 0).trans ht80
        have c6 : w8.cell? ⟨gt, 6, none⟩ = some (.int .u64 y) := (blk_cell ht8 6).trans ht86
        have hx9 := HX6.out.trans hx8
        have hh8 := hx9.keep HJ.out.hdr HDB.out.2
        have g1 := blk_cell hh8 1
        have f1 := blk_frozen hh8 1
        have hxg : Ex (fun x => x = gh) w8 (w8.setCell ⟨gh, 1, none⟩ (.int .u64 y)) := (Ex.refl (fun x => x = gh) _).setCell (p := ⟨gh, 1, none⟩) rfl _
        have HI' : Kp (HdI 104 (.pointer (some ⟨w.heap.size, 0, none⟩)) (bs.drop 0) (BrS w0 w.heap.size ga n c 0 bs) gz gs gd gk gl gt gh base L v rF w k4 j l y A cap (w8.setCell ⟨gh, 1, none⟩ (.int .u64 y))) := by
          refine ⟨hd8.frame HH.out.1 (hxg.mono (fun x hx hd => HG.out.1 (hx ▸ hd))), by rw [← hk4]; exact HDM.out, (HJ.out.own.keep hx9 HDB.out.1).keep hxg (fun x hx => HBD.out.1 x (.inr (.inr hx))), blk_set hh8 1 (.int .u64 (y : Int)), ⟨tcs8, hxg.keep ht8 (fun e => HG.out.2.2 e.symm), hts8⟩, HBD.out.2 _ ((HJ.out.ex.mono (fun x hx => .inl hx)).trans ((hx9.mono (fun x hx => .inr hx)).trans (hxg.mono (fun x hx => .inl hx)))), Nat.le_trans HJ.out.bse (Nat.le_trans hx9.size hxg.size), by omega⟩
        have HMS : Kp ((match (w8.setCell ⟨gh, 1, none⟩ (.int .u64 y)).cell? ⟨gl, 0, none⟩ with | some (.int _ z) => z.toNat | _ => 0) < (match wr.cell? ⟨gl, 0, none⟩ with | some (.int _ z) => z.toNat | _ => 0)) := by
          refine Kp.mk ?_
          rw [hd_left HI'.out.dec, hd_left HJ.out.dec]
          show ((j : Int)).toNat < (((j + 1 : Nat) : Int)).toNat
          omega
        clear hk4 hd8 ht8 hts8 ht80 ht86 hx8 hx9 hh8 hxg HC HTH HW7 HX6 HDM c0 c2
        go_wp2_with fail
        go_roundw
        case rel =>
          exact ⟨rfl, k4, j, l, y, A, cap, HI'⟩
        case measure => exact HMS.out
      · replace c2 : w6.cell? ⟨gt, 2, none⟩ = some (.string ⟨#[114, 111, 111, 116, 115]⟩) := c2
        rw [hk3] at hit2
        obtain ⟨b2, hx2, hv2⟩ := cbItem_val hit2 (fun s h => by cases h)
        have hL : l'.length ≤ 255 := by
          obtain ⟨_, ha⟩ := cbVal_arr hv2
          have := (cbArg_lt ha).1
          rw [decLinks_len hdl]
          omega
        have hh6 := hx6w.keep HJ.out.hdr HDB.out.2
        have HC := Kp.mk (zzRoots_calls _ _ _ _ _ _ _ _ _ _ _ HH.out.1 gz gs HB2.out.2.2.2.2.2.2.2.2.2.1 HB2.out.2.2.2.2.2.2.2.2.2.2.1 HB2.out.2.2.2.2.2.2.2.2.2.2.2 HH.out.2 gd gk gl gh j m' k3 x _ w6 l' r3 r4 HB2.out.2.2.2.1 HG.out.1 hd6 hh6 hit2 hdl hL)
        have HX6 := Kp.mk hx6w
        have HDM := Kp.mk (And.intro hdm (And.intro ht6 hts6))
        clear hk3 hd6 ht6 hts6 ht60 ht62 hit2 hx2 hv2 hdm hx6w hdl hL hh6
        go_wp2_with fail
        refine HC.out.mono ?_
        rintro e w8 ⟨rfl, ⟨k4, hk4, hd8⟩, ⟨A', cap', hown8, hh8⟩, hx8⟩
        have hx9 : Ex (fun x => x = gh ∨ deO (· = w.heap.size) gz gs gd gk gl gt x) w6 w8 := hx8.mono (fun x hx => by
          rcases hx with h | h | h
          · exact .inr (.inl h)
          · exact .inl h
          · exact .inr (.inr (.inr h)))
        have HI' : Kp (HdI 104 (.pointer (some ⟨w.heap.size, 0, none⟩)) (bs.drop 0) (BrS w0 w.heap.size ga n c 0 bs) gz gs gd gk gl gt gh base L v rF w k4 j l' x A' cap' w8) := by
          refine ⟨hd8, by rw [← hk4]; exact HDM.out.1, hown8.mono (Nat.le_trans HJ.out.bse HX6.out.size), hh8, ⟨tcs6, hx8.keep HDM.out.2.1 (fun h => ?_), HDM.out.2.2⟩, HBD.out.2 _ ((HJ.out.ex.mono (fun x hx => .inl hx)).trans ((HX6.out.mono (fun x hx => .inr hx)).trans hx9)), Nat.le_trans HJ.out.bse (Nat.le_trans HX6.out.size hx8.size), by omega⟩
          rcases deO_bd HH.out.1.own h with (h | h | h | h) | h
          · exact HN.out.nt h
          · exact HN.out.td h
          · exact HN.out.tk h
          · exact HN.out.tl h
          · exact HG.out.2.2 h.symm
        have HMS : Kp ((match w8.cell? ⟨gl, 0, none⟩ with | some (.int _ z) => z.toNat | _ => 0) < (match wr.cell? ⟨gl, 0, none⟩ with | some (.int _ z) => z.toNat | _ => 0)) := by
          refine Kp.mk ?_
          rw [hd_left HI'.out.dec, hd_left HJ.out.dec]
          show ((j : Int)).toNat < (((j + 1 : Nat) : Int)).toNat
          omega
        clear hk4 hd8 hown8 hh8 hx8 hx9 HC HX6 HDM c0 c2
        go_wp2_with fail
        go_roundw
        case rel =>
          exact ⟨rfl, k4, j, l', x, A', cap', HI'⟩
        case measure => exact HMS.out

end Go.Proofs.YtkcpgcaccgahaaaGreatDoor
