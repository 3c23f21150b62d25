/- Some texts in one: RdV2, NewCar, Reader. -/
import Derived.Test.YtkcpgcaccgahaaaGreatDoorSecR
import Derived.Test.YtkcpgcaccgahaaaGreatDoorOffA
import Derived.Test.YtkcpgcaccgahaaaGreatDoorHdRdS
import Derived.Test.YtkcpgcaccgahaaaGreatDoorHdA
import Derived.Deep.MidRow
import Derived.Test.YtkcpgcaccgahaaaGreatDoorOptZ
import Derived.Test.YtkcpgcaccgahaaaGreatDoorRdHeadA
namespace Go.Proofs.YtkcpgcaccgahaaaGreatDoor
open Go.RowKit

theorem secBs_length (base lim : Nat) (bs : List UInt8) : (secBs base lim bs).length = min (lim - base) (bs.length - base) := by unfold secBs; rw [List.length_take, List.length_drop]
theorem leAt_sec (base lim k : Nat) (bs : List UInt8) (h : base + k + 8 ≤ lim) : leAt k (secBs base lim bs) = leAt (base + k) bs := by
  unfold leAt secBs
  rw [List.drop_take, List.drop_drop, List.take_take, Nat.min_eq_left (by omega)]
theorem hdSet_sec (cs : Array Value) (bs : List UInt8) : hdSet cs 0 (secBs 11 51 bs) = hdSet cs 11 bs := by
  unfold hdSet
  simp only [Nat.zero_add, leAt_sec 11 51 0 bs (by omega), leAt_sec 11 51 8 bs (by omega), leAt_sec 11 51 16 bs (by omega), leAt_sec 11 51 24 bs (by omega), leAt_sec 11 51 32 bs (by omega)]
theorem SeS.start {w0 : World} {g ga n c base lim z gs : Nat} {bs : List UInt8} {w : World} (hb : Below w0.heap.size w0 w) (hg : ∃ i q, RdrAt w g ga n c i q) (hr : RdB w (some ⟨ga, 0, none⟩) n c bs) (h : w.heap[gs]? = some (.cells (secCs g base base lim z) 153 (0, 0))) : SeS w0 g ga n c base lim z gs bs 0 w := ⟨hb, hg, hr, h, Nat.zero_le _⟩

set_option maxHeartbeats 4000000 in
set_option maxRecDepth 100000 in
/-- (*car.Reader).readV2Header of a sound header. -/
theorem rdV2_calls (w0 : World) (g ga n c : Nat) (bs : List UInt8) (ve vu vo vn : Value) (he : RdErrs ve vu vo vn w0) (hg : w0.heap.size ≤ g) (hag : ga < g) (hn : n ≤ 4611686018427387904) (cr : Nat) (tt : TypeId) (cs : Array Value) (hcr : g < cr) (w : World) (hb0 : Below w0.heap.size w0 w) (hrdr : ∃ i q, RdrAt w g ga n c i q) (hrd : RdB w (some ⟨ga, 0, none⟩) n c bs) (hh : w.heap[cr]? = some (.cells cs tt (0, 0))) (h6 : cs[6]? = some (.iface 104 (.pointer (some ⟨g, 0, none⟩)))) (h51 : 51 ≤ bs.length) (hsd : hdSound (leAt 27 bs) (leAt 35 bs) (leAt 43 bs)) :
    Calls Tryz.prog 75 #[.pointer (some ⟨cr, 0, none⟩)] w fun e w' => e = .returned .nilIface ∧ w'.heap[cr]? = some (.cells (hdSet cs 11 bs) tt (0, 0)) ∧ Ex (fun x => x = cr) w w' := by
  have c6 : ∀ W, Below w.heap.size w W → W.cell? ⟨cr, 6, none⟩ = some (.iface 104 (.pointer (some ⟨g, 0, none⟩))) := fun W hb => by rw [blk_cell (blk_keep hh hb), h6]
  have c60 := c6 w (Below.refl _ _)
  have c61 := c6 w.drew (bel_drew (Below.refl _ _))
  have HN := Kp.mk (fun W => newSec_calls g 11 40 (by omega) (by omega) W)
  have hcs : 7 ≤ cs.size := by have := (Array.getElem?_eq_some_iff.1 h6).1; omega
  have HR : Kp (∀ W, Below w.heap.size w W → W.heap[w.heap.size]? = some (.cells (secCs g 11 11 51 40) 153 (0, 0)) →
      Calls Tryz.prog 98 #[.pointer (some ⟨cr, 0, none⟩), .iface 117 (.pointer (some ⟨w.heap.size, 0, none⟩))] W fun e' w' => e' = .returned (.tuple #[.int .i64 40, .nilIface]) ∧ w'.heap[cr]? = some (.cells (hdSet cs 11 bs) tt (0, 0)) ∧ Ex (fun x => x = cr) w w') := ⟨fun W hb hs => by
    have hcl := (Array.getElem?_eq_some_iff.1 hh).1
    have hsz := hb0.size
    obtain ⟨i, q, hq⟩ := hrdr
    have hS := SeS.start (w0 := w0) (hb0.trans (hb.mono hb0.size)) ⟨i, q, blk_keep hq hb⟩ (hrd.below hb) hs
    have h16 : leAt 16 (secBs 11 51 bs) = leAt 27 bs := leAt_sec 11 51 16 bs (by omega)
    have h24 : leAt 24 (secBs 11 51 bs) = leAt 35 bs := leAt_sec 11 51 24 bs (by omega)
    have h32 : leAt 32 (secBs 11 51 bs) = leAt 43 bs := leAt_sec 11 51 32 bs (by omega)
    refine (hdReadS_calls _ _ _ _ _ _ _ _ _ _ _ (srcSec w0 g ga n c 11 51 40 w.heap.size bs ve vu vo vn he hg (by omega) hag (by omega) hn (by omega)) cr tt cs W hS (blk_keep hh hb) (by omega) (by rintro (h | h | h | h) <;> omega) (by rw [secBs_length]; omega) (by rw [h16, h24, h32]; exact hsd)).mono ?_
    rintro e w' ⟨rfl, h1, h2, h3⟩
    exact ⟨rfl, by rw [h2, hdSet_sec], Ex.new hb h3 (fun k hk hx => by rcases hx with rfl | rfl; omega; rfl)⟩⟩
  clear he hg hag hn hcr hb0 hrdr hrd hh h6 h51 hsd hcs c6
  go_enter Tryz.func75, Tryz.ntmps75
  go_wp2_with fail
  refine (HN.out _).mono ?_
  rintro e w1 ⟨rfl, hs1, hb1⟩
  have HC := Kp.mk (HR.out w1 hb1 hs1)
  clear hs1 hb1 HR HN
  go_wp2_with fail
  refine HC.out.mono ?_
  rintro e w2 ⟨rfl, h1, h2⟩
  have HE := Kp.mk (And.intro h1 h2)
  clear h1 h2 HC
  go_wp2_with fail
  go_ret
  exact ⟨rfl, HE.out.1, HE.out.2⟩

end Go.Proofs.YtkcpgcaccgahaaaGreatDoor
namespace Go.Proofs.YtkcpgcaccgahaaaGreatDoor
open Go.RowKit

/-- The cells of a car.Reader over the bytes.Reader in block g. -/
def carCs (h0 h1 h2 h3 h4 v g : Nat) (rs : Value) (u : Opt13) : Array Value := #[.int .u64 h0, .int .u64 h1, .int .u64 h2, .int .u64 h3, .int .u64 h4, .int .u64 v, .iface 104 (.pointer (some ⟨g, 0, none⟩)), rs, .int .u64 u.dp, .int .u64 u.ip, .int .u64 u.ic, .bool u.z, .int .u64 u.mc, .bool u.si, .bool u.dup, .bool u.wh, .int .u64 u.tr, .bool u.v1, .bool u.tc, .int .u64 u.mh, .int .u64 u.ms, .nilIface]
def opt0 : Opt13 := ⟨0, 0, 0, false, 0, false, false, false, 0, false, false, 0, 0⟩
theorem car_put (g : Nat) (u : Opt13) : putLs (carCs 0 0 0 0 0 0 g (.slice none 0 0) opt0) 8 [.int .u64 u.dp, .int .u64 u.ip, .int .u64 u.ic, .bool u.z, .int .u64 u.mc, .bool u.si, .bool u.dup, .bool u.wh, .int .u64 u.tr, .bool u.v1, .bool u.tc, .int .u64 u.mh, .int .u64 u.ms] = carCs 0 0 0 0 0 0 g (.slice none 0 0) u := by simp [putLs, carCs, opt0]
theorem there_at {w : World} {g : Nat} {t : TypeId} {cs : Array Value} (h : w.heap[g]? = some (.cells cs t (0, 0))) (o n : Nat) (hn : o + n ≤ cs.size) : w.there g o n := fun j hj =>
  ⟨by rw [blk_cell h (o + j), Array.getElem?_eq_getElem (by omega)]; simp, blk_frozen h (o + j)⟩

/-- What car.NewReader hands back of a file of version 2. -/
def NcEnd (g : Nat) (bs : List UInt8) (w : World) (e : Ending) (w' : World) : Prop :=
  ∃ u : Opt13, u.mh = 33554432 ∧ e = .returned (.tuple #[.pointer (some ⟨w.heap.size, 0, none⟩), .nilIface]) ∧ w'.heap[w.heap.size]? = some (.cells (carCs (leAt 11 bs) (leAt 19 bs) (leAt 27 bs) (leAt 35 bs) (leAt 43 bs) 2 g (.slice none 0 0) u) 92 (0, 0)) ∧ Below w.heap.size w w'

set_option maxHeartbeats 8000000 in
set_option maxRecDepth 100000 in
/-- car.NewReader. -/
theorem newCar_calls (w0 : World) (g ga nb cb : Nat) (bs : List UInt8) (ve vu vo vn : Value) (he : RdErrs ve vu vo vn w0) (hce : CdErrs w0) (hst : ∃ v, w0.cell? ⟨1, 0, none⟩ = some v ∧ NotEof v w0) (hg : w0.heap.size ≤ g) (hag : ga < g) (hnb : nb ≤ 4611686018427387904) (A : Option Addr) (n c : Nat) (E : List (Nat × Nat × Value)) (w : World) (hr : RdO w A n E) (hn : 8 ≤ n) (hn1 : n ≤ 100) (h11 : ∀ y ∈ E, y.1 ≠ 11) (hb0 : Below w0.heap.size w0 w) (hrdr : ∃ i q, RdrAt w g ga nb cb i q) (hrd : RdB w (some ⟨ga, 0, none⟩) nb cb bs)
    (d : List UInt8) (N : Nat) (hlr : longRead bs false 33554432 = .read d N) (hdl : d.length ≤ 33554432) (L : List (List UInt8)) (rF : List UInt8) (hdh : decHead d = some ((L, 2), rF)) (h51 : 51 ≤ bs.length) (hsd : hdSound (leAt 27 bs) (leAt 35 bs) (leAt 43 bs)) :
    Calls Tryz.prog 46 #[.iface 104 (.pointer (some ⟨g, 0, none⟩)), .slice A n c] w fun e w' => NcEnd g bs w e w' := by
  have HC := Kp.mk (fun w hr => applyOptsZ_calls A n c E w hr hn hn1 h11)
  have HR := Kp.mk hr
  have HB0 := Kp.mk (fun o => bel_alloc (Below.refl w.heap.size w) o)
  have HN0 := Kp.mk (blk_new (w := w) (o := .cells (carCs 0 0 0 0 0 0 g (.slice none 0 0) opt0) 92) (Below.refl _ _))
  obtain ⟨cr, hcr⟩ : ∃ cr, cr = w.heap.size := ⟨_, rfl⟩
  have HCR := Kp.mk hcr
  have HV := Kp.mk (fun (go : Nat) (hgo : w0.heap.size ≤ go) (hgg : g < go) (w4 : World) (hr4 : RdO w4 A n E) (hS : OfS w0 g ga nb cb 0 go bs 0 w4) => rdVer_calls _ _ _ _ _ _ (bs.drop 0) ve vu vo vn _ _ _ _ (srcO w0 g ga nb cb 0 go bs ve vu vo vn he hg hgo hag hgg hnb (by decide)) (fun w h => toBytO w0 w g ga nb cb 0 go bs ve vu vo vn he hg hgo hag hgg hnb (by decide) h) (fun k w' h => by obtain ⟨v, h1, h2⟩ := hst; exact ⟨v, cell_bel h.old h1, h2.below h.old⟩) (fun k w' h => hce.below h.old) A n c E w4 hr4 hn hn1 h11 hS d N hlr hdl L 2 rF hdh)
  have HX := Kp.mk (And.intro hb0 (And.intro hrdr (And.intro hrd (And.intro hg hag))))
  have HRV := Kp.mk (fun (cs : Array Value) (hcr : g < cr) (W : World) (hb0 : Below w0.heap.size w0 W) hrdr (hrd : RdB W (some ⟨ga, 0, none⟩) nb cb bs) hh h6 => rdV2_calls w0 g ga nb cb bs ve vu vo vn he hg hag hnb cr 92 cs hcr W hb0 hrdr hrd hh h6 h51 hsd)
  clear hr hn hn1 h11 hcr he hce hst hg hag hnb hb0 hrdr hrd hlr hdl hdh h51 hsd
  go_enter Tryz.func46, Tryz.ntmps46
  go_wp2_with fail
  refine (HC.out _ (HR.out.below (HB0.out _))).mono ?_
  rintro e w2 ⟨⟨⟨a0, a1, a2, a3, a4, a5, a6, a7, a8, a9, a10, a11, a12⟩, hmh, rfl⟩, hb2⟩
  have h2 : w2.heap[cr]? = some (.cells (carCs 0 0 0 0 0 0 g (.slice none 0 0) opt0) 92 (0, 0)) := by rw [HCR.out]; exact blk_keep HN0.out hb2
  have HB2 := Kp.mk (bel_then (HB0.out _) hb2)
  rw [← HCR.out]
  simp only [Opt13.cells]
  obtain ⟨W3, hW3⟩ : ∃ W3, W3 = w2.setCells cr 8 [.int .u64 a0, .int .u64 a1, .int .u64 a2, .bool a3, .int .u64 a4, .bool a5, .bool a6, .bool a7, .int .u64 a8, .bool a9, .bool a10, .int .u64 a11, .int .u64 a12] := ⟨_, rfl⟩
  have h3 : W3.heap[cr]? = some (.cells (carCs 0 0 0 0 0 0 g (.slice none 0 0) ⟨a0, a1, a2, a3, a4, a5, a6, a7, a8, a9, a10, a11, a12⟩) 92 (0, 0)) := by
    rw [hW3, ← car_put]; exact blk_setCells _ _ _ h2
  have HTH := Kp.mk (there_at h2 8 13 (by simp [carCs]))
  have HW3 := Kp.mk hW3
  have H3 := Kp.mk h3
  have HNO := Kp.mk (newOff_calls g 0)
  clear hb2 h2 hW3 h3 HC
  go_wp2_with (first | (refine wpList_store_mid rfl 88 _ _ rfl _ _ #[.int .u64 a0, .int .u64 a1, .int .u64 a2, .bool a3, .int .u64 a4, .bool a5, .bool a6, .bool a7, .int .u64 a8, .bool a9, .bool a10, .int .u64 a11, .int .u64 a12] rfl rfl HTH.out (by kernel_rfl) (by simp [Value.oneCell']) ?_; rw [← (HW3.out : W3 = w2.setCells cr 8 (#[.int .u64 a0, .int .u64 a1, .int .u64 a2, .bool a3, .int .u64 a4, .bool a5, .bool a6, .bool a7, .int .u64 a8, .bool a9, .bool a10, .int .u64 a11, .int .u64 a12] : Array Value).toList)]))
  refine (HNO.out _).mono ?_
  rintro e w4 ⟨rfl, h4, hb4⟩
  obtain ⟨go, hgo⟩ : ∃ go, go = W3.heap.size := ⟨_, rfl⟩
  rw [← hgo] at h4 ⊢
  have hxs : Ex (fun x => x = cr) w2 W3 := HW3.out ▸ Ex.setCells (P := fun x => x = cr) rfl _ _ (Ex.refl _ _)
  have hbw3 : Below w.heap.size w W3 := HB2.out.trans (hxs.toBelow (fun j hj e => by have := HCR.out; omega) HB2.out.size)
  have hbw4 : Below w.heap.size w w4 := hbw3.trans (hb4.mono hbw3.size)
  have hS4 : OfS w0 g ga nb cb 0 go bs 0 w4 := by
    obtain ⟨hb0, ⟨i, q, hrdr⟩, hrd, hg, hag⟩ := HX.out
    exact ⟨hb0.trans (hbw4.mono hb0.size), ⟨i, q, blk_keep hrdr hbw4⟩, hrd.below hbw4, ⟨0, h4⟩, Nat.zero_le _⟩
  have hgg : g < go := by
    obtain ⟨hb0, ⟨i, q, hrdr⟩, hrd, hg, hag⟩ := HX.out
    have h1 := (Array.getElem?_eq_some_iff.1 hrdr).1
    have h2 := hbw3.size
    omega
  have hc4 := blk_keep H3.out hb4
  have HC4 := Kp.mk (HV.out go (Nat.le_trans HX.out.2.2.2.1 (Nat.le_of_lt hgg)) hgg w4 (HR.out.below hbw4) hS4)
  have H4 := Kp.mk (And.intro hc4 (And.intro hbw4 (And.intro hgo hgg)))
  clear h4 hb4 hgo hxs hbw3 hbw4 hS4 hgg hc4 HV HNO HTH
  go_wp2_with fail
  refine HC4.out.mono ?_
  rintro e w5 ⟨rfl, hS5, hx5⟩
  have hc5 := hx5.keep H4.out.1 (by have h1 := H4.out.2.2.1; have h2 := (Array.getElem?_eq_some_iff.1 H3.out).1; show ¬ cr = go; omega)
  have hgcr : g < cr := by
    obtain ⟨i, q, hq⟩ := HX.out.2.1
    have h1 := (Array.getElem?_eq_some_iff.1 hq).1
    have h2 := HCR.out
    omega
  have hx6 := Ex.setCell (P := fun x => x = go ∨ x = cr) (hx5.mono (fun x hx => .inl hx)) (p := ⟨cr, 5, none⟩) (.inr rfl) (.int .u64 2)
  have hset := blk_set hc5 5 (.int .u64 2)
  have hb6 : Below w.heap.size w (w5.setCell ⟨cr, 5, none⟩ (.int .u64 2)) := H4.out.2.1.trans (hx6.toBelow (fun x hx hn => by have h1 := H4.out.2.2.1; have h2 := HCR.out; have h3 := (Array.getElem?_eq_some_iff.1 H3.out).1; omega) H4.out.2.1.size)
  have g5 : w5.cell? ⟨cr, 5, none⟩ = some (.int .u64 0) := blk_cell hc5 5
  have f5 := blk_frozen hc5 5
  obtain ⟨W6, hW6⟩ : ∃ W6, W6 = w5.setCell ⟨cr, 5, none⟩ (.int .u64 2) := ⟨_, rfl⟩
  rw [← hW6] at hset hb6
  have k5 : W6.cell? ⟨cr, 5, none⟩ = some (.int .u64 2) := blk_cell hset 5
  have HC6 : Kp (∀ W, Below W6.heap.size W6 W → Calls Tryz.prog 75 #[.pointer (some ⟨cr, 0, none⟩)] W fun e w' => e = .returned .nilIface ∧ NcEnd g bs w (.returned (.tuple #[.pointer (some ⟨cr, 0, none⟩), .nilIface])) w') := ⟨fun W hb => by
    obtain ⟨hb0, ⟨i, q, hrdr⟩, hrd, hg, hag⟩ := HX.out
    have hbW : Below w.heap.size w W := hb6.trans (hb.mono hb6.size)
    refine (HRV.out _ hgcr W (hb0.trans (hbW.mono hb0.size)) ⟨i, q, blk_keep hrdr hbW⟩ (hrd.below hbW) (blk_keep hset hb) rfl).mono ?_
    rintro e w' ⟨rfl, h1, h2⟩
    refine ⟨rfl, ⟨a0, a1, a2, a3, a4, a5, a6, a7, a8, a9, a10, a11, a12⟩, hmh, by rw [← HCR.out], ?_, hbW.trans (h2.toBelow (fun x hx hn => by have := HCR.out; omega) hbW.size)⟩
    rw [← HCR.out, h1]
    rfl⟩
  have HW6 := Kp.mk hW6
  clear hS5 hx5 hc5 HC4 hx6 hset hb6 hW6 HRV hgcr
  go_wp2_with fail
  rw [← HW6.out]
  refine (HC6.out _ (Below.refl _ _)).mono ?_
  rintro e w7 ⟨rfl, hend⟩
  have HE := Kp.mk hend
  clear hend HC6 g5 f5 k5
  go_wp2_with fail
  go_ret2
  exact HE.out

end Go.Proofs.YtkcpgcaccgahaaaGreatDoor
namespace Go.Proofs.YtkcpgcaccgahaaaGreatDoor
open Go.RowKit

/-- The pragma of a file of version 2. -/
def pragB : List UInt8 := [10, 161, 103, 118, 101, 114, 115, 105, 111, 110, 2]
theorem prag_long (r : List UInt8) : longRead (pragB ++ r) false 33554432 = .read [161, 103, 118, 101, 114, 115, 105, 111, 110, 2] 11 := by
  have h1 : uvRead (pragB ++ r) = some (10, 1) := by rfl
  rw [long_read (by simp [pragB]) h1 (by omega) (by simp) (by rw [List.length_append]; have : pragB.length = 11 := rfl; omega) (by rw [List.length_append]; have : pragB.length = 11 := rfl; omega)]
  rfl

/-- What the operations ahead of car.NewReader leave. -/
def rrR (b n : Nat) (bs : List UInt8) (o : OptI) (j : Nat) (v : Value) (w : World) : Prop :=
  match j with
  | 0 => ∃ s : ByteArray, v = .string s ∧ s.size = n ∧ bl s = bs
  | 1 => ∃ ga c, v = .slice (some ⟨ga, 0, none⟩) n c ∧ RdB w (some ⟨ga, 0, none⟩) n c bs ∧ b ≤ ga ∧ ga < w.heap.size
  | 2 => ∃ g ga c, v = .pointer (some ⟨g, 0, none⟩) ∧ RdrAt w g ga n c 0 (-1) ∧ RdB w (some ⟨ga, 0, none⟩) n c bs ∧ b ≤ ga ∧ ga < g
  | 3 => ∃ g ga c, v = .iface 104 (.pointer (some ⟨g, 0, none⟩)) ∧ RdrAt w g ga n c 0 (-1) ∧ RdB w (some ⟨ga, 0, none⟩) n c bs ∧ b ≤ ga ∧ ga < g
  | 4 => v = .agg o.cells
  | 5 => ∃ A c E, v = .slice A 8 c ∧ RdO w A 8 E ∧ E.map (·.1) = [3, 5, 6, 7, 9, 10, 0, 1]
  | _ => True
theorem rrR_keep (b n : Nat) (bs : List UInt8) (o : OptI) : ∀ (j : Nat) (v : Value) (w w' : World), rrR b n bs o j v w → Below w.heap.size w w' → rrR b n bs o j v w'
  | 0, _, _, _, h, _ => h
  | 1, _, _, _, ⟨ga, c, h1, h2, h3, h4⟩, hb => ⟨ga, c, h1, h2.below hb, h3, Nat.lt_of_lt_of_le h4 hb.size⟩
  | 2, _, _, _, ⟨g, ga, c, h1, h2, h3, h4, h5⟩, hb => ⟨g, ga, c, h1, blk_keep h2 hb, h3.below hb, h4, h5⟩
  | 3, _, _, _, ⟨g, ga, c, h1, h2, h3, h4, h5⟩, hb => ⟨g, ga, c, h1, blk_keep h2 hb, h3.below hb, h4, h5⟩
  | 4, _, _, _, h, _ => h
  | 5, _, _, _, ⟨A, c, E, h1, h2, h3⟩, hb => ⟨A, c, E, h1, h2.below hb, h3⟩
  | _ + 6, _, _, _, _, _ => trivial
def rrR' (p0 v0 : Value) (j : Nat) (v : Value) (_ : World) : Prop :=
  match j with
  | 6 => v = .tuple #[p0, v0]
  | 7 => v = .tuple #[p0, v0]
  | 8 => v = p0
  | 9 => v = v0
  | 10 => v = p0
  | 11 => v = v0
  | _ => True

/-- What impl.reader hands back. -/
def RrEnd (bs : List UInt8) (w : World) (e : Ending) (w' : World) : Prop :=
  ∃ g ga c cr, ∃ u : Opt13, u.mh = 33554432 ∧ e = .returned (.tuple #[.pointer (some ⟨cr, 0, none⟩), .bool true]) ∧ w'.heap[cr]? = some (.cells (carCs (leAt 11 bs) (leAt 19 bs) (leAt 27 bs) (leAt 35 bs) (leAt 43 bs) 2 g (.slice none 0 0) u) 92 (0, 0)) ∧ RdrAt w' g ga bs.length c 0 (-1) ∧ RdB w' (some ⟨ga, 0, none⟩) bs.length c bs ∧ w.heap.size ≤ ga ∧ ga < g ∧ g < cr ∧ Below w.heap.size w w'

set_option maxHeartbeats 8000000 in
set_option maxRecDepth 100000 in
/-- impl.reader. -/
theorem reader_calls (o : OptI) (hz0 : o.codec = 0) (hz1 : o.mc = 0) (hz2 : o.mh = 0) (hz3 : o.ms = 0) (s : ByteArray) (w : World) (ve vu vo vn : Value) (he : RdErrs ve vu vo vn w) (hce : CdErrs w) (hst : ∃ v, w.cell? ⟨1, 0, none⟩ = some v ∧ NotEof v w)
    (r : List UInt8) (hs : bl s = pragB ++ r) (hr : 40 ≤ r.length) (hsz : s.size ≤ 4611686018427387904) (hsd : hdSound (leAt 27 (bl s)) (leAt 35 (bl s)) (leAt 43 (bl s))) :
    Calls Tryz.prog 26 #[.string s, .agg o.cells] w fun e w' => RrEnd (bl s) w e w' := by
  show Calls Tryz.prog 26 #[.string s, .agg #[.bool o.z, .bool o.id, .bool o.dup, .bool o.wh, .bool o.v1, .bool o.tr, .int .u64 o.dp, .int .u64 o.ip, .int .u64 o.codec, .int .u64 o.mc, .int .u64 o.mh, .int .u64 o.ms]] w _
  have HO := Kp.mk (fun W => optionsZ_calls o hz0 hz1 hz2 hz3 W)
  have hkb := fun W => Lib.run_convert_string_bytes (P := Tryz.prog) W 9 67 5 s Tryz.underlying9 Tryz.underlying67 Tryz.underlying5
  have h51 : 51 ≤ (bl s).length := by rw [hs, List.length_append]; simp [pragB]; omega
  have HN := Kp.mk (fun g ga c (hg : w.heap.size ≤ g) (hag : ga < g) A cc E W (hro : RdO W A 8 E) (h11 : ∀ y ∈ E, y.1 ≠ 11) (hb0 : Below w.heap.size w W) hrdr hrd => newCar_calls w g ga s.size c (bl s) ve vu vo vn he hce hst hg hag hsz A 8 cc E W hro (Nat.le_refl _) (by omega) h11 hb0 hrdr hrd _ 11 (by rw [hs]; exact prag_long r) (by simp) [] [] dec_pragma h51 hsd)
  have HX := Kp.mk (And.intro hsz (bl_length s))
  clear hz0 hz1 hz2 hz3 he hce hst hs hr hsz hsd h51
  go_enter Tryz.func26, Tryz.ntmps26
  go_wp2_with fail
  have HB0 := Kp.mk (bel_alloc (Below.refl w.heap.size w) (.cells #[.bool o.z, .bool o.id, .bool o.dup, .bool o.wh, .bool o.v1, .bool o.tr, .int .u64 o.dp, .int .u64 o.ip, .int .u64 o.codec, .int .u64 o.mc, .int .u64 o.mh, .int .u64 o.ms] 30))
  have HN0 := Kp.mk (blk_new (w := w) (o := .cells #[.bool o.z, .bool o.id, .bool o.dup, .bool o.wh, .bool o.v1, .bool o.tr, .int .u64 o.dp, .int .u64 o.ip, .int .u64 o.codec, .int .u64 o.mc, .int .u64 o.mh, .int .u64 o.ms] 30) (Below.refl _ _))
  generalize hW0 : w.alloc _ = W0 at *
  have HW := Kp.mk hW0
  clear hW0
  refine wp_region_grow (by kernel_rfl) 6 (by decide) (apart_of (by kernel_rfl)) (by kernel_rfl) (rrR w.heap.size s.size (bl s) o) (fun _ _ _ _ => True) (rrR_keep _ _ _ _) ?_ ?_
  · intro j hj ob ho vs w1 hb hpre
    have hb' : Below W0.heap.size W0 w1 := bel_then (bel_drew (Below.refl _ _)) hb
    rcases j with _ | _ | _ | _ | _ | _ | j
    · obtain rfl := Option.some.inj ho
      simp only [canon, List.range, List.range.loop, List.foldl]
      go_simp
      exact ⟨⟨s, rfl, rfl, rfl⟩, Below.refl _ _⟩
    · obtain ⟨s', e0, h1, h2⟩ := hpre 0 (by decide) (by obtain rfl := Option.some.inj ho; rfl)
      obtain rfl : s' = s := by rw [← strB_bl s', h2, strB_bl]
      obtain rfl := Option.some.inj ho
      simp only [canon, List.range, List.range.loop, List.foldl]
      go_simp
      have hbw := bel_bytes (Below.refl w1.heap.size w1) 5 s'
      exact ⟨⟨_, _, rfl, rd_bytes w1 5 s' (by have := HX.out; omega), by have h1 := HB0.out.size; have h2 := hb'.size; omega, by rw [Lib.bytesWorld_size]; omega⟩, hbw⟩
    · obtain ⟨ga, c, e1, h1, h2, h3⟩ := hpre 1 (by decide) (by obtain rfl := Option.some.inj ho; rfl)
      obtain rfl := Option.some.inj ho
      simp only [canon, List.range, List.range.loop, List.foldl]
      go_simp
      refine (newRdr_calls _ _ _ _).mono ?_
      rintro e w2 ⟨rfl, rfl⟩
      have hal := bel_alloc (Below.refl w1.heap.size w1) (.cells #[.slice (some ⟨ga, 0, none⟩) s.size c, .int .i64 0, .int .i64 (-1)] 139)
      exact ⟨⟨_, ga, c, rfl, by simp [RdrAt, World.alloc, -World.alloc_eq], h1.below hal, h2, h3⟩, hal⟩
    · obtain ⟨g, ga, c, e2, h⟩ := hpre 2 (by decide) (by obtain rfl := Option.some.inj ho; rfl)
      obtain rfl := Option.some.inj ho
      simp only [canon, List.range, List.range.loop, List.foldl]
      go_simp
      exact ⟨⟨g, ga, c, rfl, h⟩, Below.refl _ _⟩
    · have hh := blk_keep HN0.out hb'
      have c0 := blk_cell hh 0
      have c1 := blk_cell hh 1
      have c2 := blk_cell hh 2
      have c3 := blk_cell hh 3
      have c4 := blk_cell hh 4
      have c5 := blk_cell hh 5
      have c6 := blk_cell hh 6
      have c7 := blk_cell hh 7
      have c8 := blk_cell hh 8
      have c9 := blk_cell hh 9
      have c10 := blk_cell hh 10
      have c11 := blk_cell hh 11
      obtain rfl := Option.some.inj ho
      simp only [canon, List.range, List.range.loop, List.foldl]
      go_simp
      exact ⟨rfl, Below.refl _ _⟩
    · have e4 : vs 4 = .agg o.cells := hpre 4 (by decide) (by obtain rfl := Option.some.inj ho; rfl)
      obtain rfl := Option.some.inj ho
      simp only [canon, List.range, List.range.loop, List.foldl]
      go_simp
      refine (HO.out _).mono ?_
      rintro e w2 ⟨⟨A, c, E, rfl, h1, h2⟩, h3⟩
      exact ⟨⟨A, c, E, rfl, h1, h2⟩, h3⟩
    · omega
  · intro vs w1 hb hr _
    obtain ⟨g, ga, c, e3, hg1, hr1, hga, hag⟩ := hr 3 (by omega)
    obtain ⟨A, cc, E, e5, hro, hE⟩ := hr 5 (by omega)
    have hbW : Below w.heap.size w w1 := HB0.out.trans ((bel_then (bel_drew (Below.refl _ _)) hb).mono HB0.out.size)
    have h11 : ∀ y ∈ E, y.1 ≠ 11 := fun y hy => by
      have h1 : y.1 ∈ E.map (·.1) := List.mem_map_of_mem hy
      rw [hE] at h1
      simp only [List.mem_cons, List.not_mem_nil, or_false] at h1
      omega
    have HC := Kp.mk (HN.out g ga c (by omega) hag A cc E w1 hro h11 hbW ⟨_, _, hg1⟩ hr1)
    have HY := Kp.mk (And.intro hg1 (And.intro hr1 (And.intro hga (And.intro hag hbW))))
    clear hr hg1 hr1 hga hag hro hE hbW h11 HN
    simp only [canon, List.range, List.range.loop, List.foldl]
    refine wpAny_last 6 (by kernel_rfl) ?_
    refine wpOp_go rfl rfl ?_
    go_simp
    refine HC.out.mono ?_
    rintro e w2 ⟨u, hu, rfl, h1, h2⟩
    obtain ⟨p0, hp0⟩ : ∃ p0, p0 = Value.pointer (some ⟨w1.heap.size, 0, none⟩) := ⟨_, rfl⟩
    obtain ⟨v0, hv0⟩ : ∃ v0, v0 = Value.nilIface := ⟨_, rfl⟩
    have HE := Kp.mk (And.intro hu (And.intro h1 h2))
    clear hu h1 h2 HC
    rw [← hp0, ← hv0]
    refine wpAny_restR (fun u u' => u = u') (fun _ => rfl) (fun _ _ _ h k => h.trans k) 7 12 rfl (by decide) (apart_of (by kernel_rfl)) (by kernel_rfl) (rrR' p0 v0) (fun _ _ _ _ h _ => by unfold rrR' at *; exact h) ?_ ?_ ?_
    · intro i hi
      rcases i with _ | _ | _ | _ | _ | _ | _ | i
      all_goals first | trivial | rfl | omega
    · intro j hkj hj ob ho vs w2 hb hpre
      subst hb
      rcases j with _ | _ | _ | _ | _ | _ | _ | _ | _ | _ | _ | _ | j
      iterate 7 (· omega)
      · have e6 : vs 6 = _ := hpre 6 (by decide) (by obtain rfl := Option.some.inj ho; rfl)
        obtain rfl := Option.some.inj ho
        simp only [canon, List.range, List.range.loop, List.foldl]
        go_simp
        all_goals first | rfl | exact ⟨rfl, rfl⟩ | trivial
      · have e7 : vs 7 = _ := hpre 7 (by decide) (by obtain rfl := Option.some.inj ho; rfl)
        obtain rfl := Option.some.inj ho
        simp only [canon, List.range, List.range.loop, List.foldl]
        go_simp
        all_goals first | rfl | exact ⟨rfl, rfl⟩ | trivial
      · have e7 : vs 7 = _ := hpre 7 (by decide) (by obtain rfl := Option.some.inj ho; rfl)
        obtain rfl := Option.some.inj ho
        simp only [canon, List.range, List.range.loop, List.foldl]
        go_simp
        all_goals first | rfl | exact ⟨rfl, rfl⟩ | trivial
      · have e8 : vs 8 = _ := hpre 8 (by decide) (by obtain rfl := Option.some.inj ho; rfl)
        obtain rfl := Option.some.inj ho
        simp only [canon, List.range, List.range.loop, List.foldl]
        go_simp
        all_goals first | rfl | exact ⟨rfl, rfl⟩ | trivial
      · have e9 : vs 9 = _ := hpre 9 (by decide) (by obtain rfl := Option.some.inj ho; rfl)
        obtain rfl := Option.some.inj ho
        simp only [canon, List.range, List.range.loop, List.foldl]
        go_simp
        all_goals first | rfl | exact ⟨rfl, rfl⟩ | trivial
      · omega
    · intro vs w2 hb hr
      subst hb
      have e7 : vs 7 = _ := hr 7 (by omega)
      have e8 : vs 8 = _ := hr 8 (by omega)
      have e9 : vs 9 = _ := hr 9 (by omega)
      have e10 : vs 10 = _ := hr 10 (by omega)
      have e11 : vs 11 = _ := hr 11 (by omega)
      simp only [canon, List.range, List.range.loop, List.foldl]
      rw [e7, e8, e9, e10, e11]
      subst hp0
      subst hv0
      clear e7 e8 e9 e10 e11 hr
      go_simp
      go_wp2_with fail
      go_quiet (fail)
      go_wp2
      go_ret2
      obtain ⟨hg1, hr1, hga, hag, hbW⟩ := HY.out
      obtain ⟨hu, h1, h2⟩ := HE.out
      have hbq := bel_drewN h2 nq
      have hcl := (Array.getElem?_eq_some_iff.1 hg1).1
      refine ⟨g, ga, c, w1.heap.size, u, hu, rfl, h1, ?_, ?_, hga, hag, hcl, hbW.trans (hbq.mono hbW.size)⟩
      · rw [HX.out.2]; exact blk_keep hg1 hbq
      · rw [HX.out.2]; exact hr1.below hbq

end Go.Proofs.YtkcpgcaccgahaaaGreatDoor
