/- Some texts in one: Dec1, Dec2, Dec3, Dec4, Dec5. -/
import Derived.Test.YtkcpgcaccgahaaaGreatDoorSlA
import Derived.Test.YtkcpgcaccgahaaaGreatDoorHdS
import Derived.Test.YtkcpgcaccgahaaaGreatDoorGrowB
namespace Go.Proofs.YtkcpgcaccgahaaaGreatDoor
open Go.RowKit

def dcCs (gs ph : Nat) (A B : Value) : Array Value := #[.bool true, .bool false, .int .i64 0, .bool false, .bool false, .bool false, .bool false, .iface 262 (.pointer (some ⟨gs, 0, none⟩)), A, .int .u8 ph, B]
/-- A decoder in block gd. -/
def DcAt (w : World) (gd gs ph : Nat) (A B : Value) : Prop := w.heap[gd]? = some (.cells (dcCs gs ph A B) 233 (0, 0))
theorem slO_D {T : TypeId} {pv : Value} {fr : FuncId} {bs : List UInt8} {ve vu vo vn : Value} {O D : Nat → Prop} {S : Nat → World → Prop} (H : Src T pv fr bs ve vu vo vn O D S) {gz gs x : Nat} (h : slO O gz gs x) : slD D gz gs x := by
  rcases h with (h | h) | h
  · exact .inl (H.own _ h)
  · exact .inr (.inl h)
  · exact .inr (.inr h)

set_option maxHeartbeats 4000000 in
set_option maxRecDepth 100000 in
/-- (*Decoder).decodeUint of a number below 256. -/
theorem decUint_calls (T : TypeId) (pv : Value) (fr : FuncId) (bs : List UInt8) (ve vu vo vn : Value) (O D : Nat → Prop) (S : Nat → World → Prop) (H : Src T pv fr bs ve vu vo vn O D S) (gz gs : Nat) (hz : ¬ D gz) (hs : ¬ D gs) (hzs : gz ≠ gs) (gd ph : Nat) (A B : Value) (hgd : ¬ slD D gz gs gd) (k : Nat) (w : World) (b n : Nat) (r : List UInt8) (hb : b < 256) (hS : SlS T pv S gz gs k w) (hd : DcAt w gd gs ph A B) (ha : cbArg (b % 32) (bs.drop k) = some (n, r)) :
    Calls Tryz.prog 168 #[.pointer (some ⟨gd, 0, none⟩), .int .u8 b] w fun e w' => e = .returned (.tuple #[.int .u64 n, .nilIface]) ∧ (∃ k', r = bs.drop k' ∧ SlS T pv S gz gs k' w') ∧ Ex (slO O gz gs) w w' := by
  unfold cbArg at ha
  by_cases h24 : b % 32 < 24
  · rw [if_pos h24] at ha
    simp only [Option.some.injEq, Prod.mk.injEq] at ha
    obtain ⟨rfl, rfl⟩ := ha
    have HS := Kp.mk hS
    clear hS hd H hz hs hzs hgd
    go_enter Tryz.func168, Tryz.ntmps168
    go_wp2_with fail
    go_ret2
    exact ⟨by simp, ⟨k, rfl, HS.out⟩, Ex.refl _ _⟩
  · rw [if_neg h24] at ha
    by_cases h25 : b % 32 = 24
    · rw [if_pos h25] at ha
      cases hrest : bs.drop k with
      | nil => rw [hrest] at ha; cases ha
      | cons x r' =>
        rw [hrest] at ha
        simp only [Option.some.injEq, Prod.mk.injEq] at ha
        obtain ⟨rfl, rfl⟩ := ha
        have hx : bs[k]? = some x := by have := congrArg (fun l => l[0]?) hrest; simpa [List.getElem?_drop] using this
        have hr : r' = bs.drop (k + 1) := by have := congrArg (fun l => l.drop 1) hrest; simpa [List.drop_drop] using this.symm
        have HC := Kp.mk (readn1_calls T pv fr bs ve vu vo vn O D S H gz gs hz hs hzs k w x hS hx)
        have hm : ∀ W, (method 453 262 (.pointer (some ⟨gs, 0, none⟩)) "Readn1").run Tryz.prog W = .ok (256, .pointer (some ⟨gs, 0, none⟩)) W := fun _ => by kernel_rfl
        have c7 : w.cell? ⟨gd, 7, none⟩ = some (.iface 262 (.pointer (some ⟨gs, 0, none⟩))) := blk_cell hd 7
        have q24 : (b : Int) % 32 = 24 := by omega
        have HD := Kp.mk hd
        have HR := Kp.mk hr
        have HN := Kp.mk (fun h => hgd (slO_D H h))
        clear hS hd H hz hs hzs hgd hrest hx hr h24 h25
        go_enter Tryz.func168, Tryz.ntmps168
        go_wp2_with fail
        refine HC.out.mono ?_
        rintro e w1 ⟨rfl, h1, h2⟩
        have hd1 : DcAt w1 gd gs ph A B := h2.keep HD.out HN.out
        have c3 : w1.cell? ⟨gd, 3, none⟩ = some (.bool false) := blk_cell hd1 3
        have HK := Kp.mk (And.intro h1 h2)
        clear h1 h2 hd1 HC c7
        go_wp2_with fail
        go_ret2
        have hxl := x.toNat_lt
        exact ⟨by rw [u64_wrap_id (x.toNat : Int) (by omega) (by omega)]; rfl, ⟨k + 1, HR.out, HK.out.1⟩, HK.out.2⟩
    · rw [if_neg h25] at ha; cases ha

set_option maxHeartbeats 4000000 in
set_option maxRecDepth 100000 in
/-- (*Decoder).decodeLen of a number below 256. -/
theorem decLen_calls (T : TypeId) (pv : Value) (fr : FuncId) (bs : List UInt8) (ve vu vo vn : Value) (O D : Nat → Prop) (S : Nat → World → Prop) (H : Src T pv fr bs ve vu vo vn O D S) (gz gs : Nat) (hz : ¬ D gz) (hs : ¬ D gs) (hzs : gz ≠ gs) (gd ph : Nat) (A B : Value) (hgd : ¬ slD D gz gs gd) (k : Nat) (w : World) (b n : Nat) (r : List UInt8) (hb : b < 256) (hS : SlS T pv S gz gs k w) (hd : DcAt w gd gs ph A B) (ha : cbArg (b % 32) (bs.drop k) = some (n, r)) :
    Calls Tryz.prog 172 #[.pointer (some ⟨gd, 0, none⟩), .int .u8 b] w fun e w' => e = .returned (.tuple #[.int .i64 n, .nilIface]) ∧ (∃ k', r = bs.drop k' ∧ SlS T pv S gz gs k' w') ∧ Ex (slO O gz gs) w w' := by
  have HC := Kp.mk (decUint_calls T pv fr bs ve vu vo vn O D S H gz gs hz hs hzs gd ph A B hgd k w b n r hb hS hd ha)
  have hn := (cbArg_lt ha).1
  clear hS hd H hz hs hzs hgd ha
  go_enter Tryz.func172, Tryz.ntmps172
  go_wp2_with fail
  refine HC.out.mono ?_
  rintro e w1 ⟨rfl, h1, h2⟩
  have HK := Kp.mk (And.intro h1 h2)
  have q1 : decide ((9223372036854775807 : Int) < (n : Int)) = false := decide_eq_false (by omega)
  clear h1 h2 HC
  go_wp2_with fail
  go_ret2
  exact ⟨rfl, HK.out.1, HK.out.2⟩

set_option maxHeartbeats 4000000 in
set_option maxRecDepth 100000 in
/-- (*Decoder).decodeString of a few bytes. -/
theorem decStr_calls (T : TypeId) (pv : Value) (fr : FuncId) (bs : List UInt8) (ve vu vo vn : Value) (O D : Nat → Prop) (S : Nat → World → Prop) (H : Src T pv fr bs ve vu vo vn O D S) (gz gs : Nat) (hz : ¬ D gz) (hs : ¬ D gs) (hzs : gz ≠ gs) (gd ph : Nat) (A B : Value) (hgd : ¬ slD D gz gs gd) (k : Nat) (w : World) (b n : Nat) (r : List UInt8) (hb : b < 256) (hS : SlS T pv S gz gs k w) (hd : DcAt w gd gs ph A B) (ha : cbArg (b % 32) (bs.drop k) = some (n, r)) (hn0 : 0 < n) (hn : n < 32) (hnr : n ≤ r.length) :
    Calls Tryz.prog 171 #[.pointer (some ⟨gd, 0, none⟩), .int .u8 b] w fun e w' => e = .returned (.tuple #[.string (strB (r.take n)), .nilIface]) ∧ (∃ k', r.drop n = bs.drop k' ∧ SlS T pv S gz gs k' w') ∧ Ex (slO O gz gs) w w' := by
  have HC := Kp.mk (decLen_calls T pv fr bs ve vu vo vn O D S H gz gs hz hs hzs gd ph A B hgd k w b n r hb hS hd ha)
  have HC2 := Kp.mk (fun k w h1 h2 => readnzc_calls T pv fr bs ve vu vo vn O D S H gz gs hz hs hzs k n w h1 hn0 hn h2)
  have hm : ∀ W, (method 453 262 (.pointer (some ⟨gs, 0, none⟩)) "Readnzc").run Tryz.prog W = .ok (257, .pointer (some ⟨gs, 0, none⟩)) W := fun _ => by kernel_rfl
  have HD := Kp.mk hd
  have HN := Kp.mk (fun h => hgd (slO_D H h))
  have HNR := Kp.mk (And.intro hnr hn0)
  clear hS hd H hz hs hzs hgd ha hnr
  go_enter Tryz.func171, Tryz.ntmps171
  go_wp2_with fail
  refine HC.out.mono ?_
  rintro e w1 ⟨rfl, ⟨k1, hk1, h1⟩, h2⟩
  have hd1 : DcAt w1 gd gs ph A B := h2.keep HD.out HN.out
  have c7 : w1.cell? ⟨gd, 7, none⟩ = some (.iface 262 (.pointer (some ⟨gs, 0, none⟩))) := blk_cell hd1 7
  have HC3 := Kp.mk (HC2.out k1 w1 h1 (by have h3 := HNR.out.1; have h0 := HNR.out.2; rw [hk1, List.length_drop] at h3; omega))
  have HK := Kp.mk (And.intro hk1 h2)
  clear h1 h2 hd1 HC HC2 hk1
  go_wp2_with fail
  refine HC3.out.mono ?_
  rintro e w2 ⟨rfl, h1, h2, h3⟩
  have hstr := rd_string h1 67 9 Tryz.underlying67 Tryz.underlying9
  have HK2 := Kp.mk (And.intro h2 h3)
  clear h1 h2 h3 HC3 c7
  go_wp2_with fail
  go_ret2
  exact ⟨by rw [HK.out.1]; rfl, ⟨k1 + n, by rw [HK.out.1, List.drop_drop], HK2.out.1⟩, HK.out.2.trans HK2.out.2⟩

set_option maxHeartbeats 4000000 in
set_option maxRecDepth 100000 in
/-- (*Decoder).decodeBytes of some bytes, fewer than 256. -/
theorem decByt_calls (T : TypeId) (pv : Value) (fr : FuncId) (bs : List UInt8) (ve vu vo vn : Value) (O D : Nat → Prop) (S : Nat → World → Prop) (H : Src T pv fr bs ve vu vo vn O D S) (gz gs : Nat) (hz : ¬ D gz) (hs : ¬ D gs) (hzs : gz ≠ gs) (gd ph : Nat) (A B : Value) (hgd : ¬ slD D gz gs gd) (k : Nat) (w : World) (b n : Nat) (r : List UInt8) (hb : b < 256) (hS : SlS T pv S gz gs k w) (hd : DcAt w gd gs ph A B) (ha : cbArg (b % 32) (bs.drop k) = some (n, r)) (hn0 : 0 < n) (hnr : n ≤ r.length) :
    Calls Tryz.prog 170 #[.pointer (some ⟨gd, 0, none⟩), .int .u8 b] w fun e w' => ∃ gb cap, w.heap.size ≤ gb ∧ e = .returned (.tuple #[.slice (some ⟨gb, 0, none⟩) n cap, .nilIface]) ∧ RdB w' (some ⟨gb, 0, none⟩) n cap (r.take n) ∧ (∃ k', r.drop n = bs.drop k' ∧ SlS T pv S gz gs k' w') ∧ Ex (slO O gz gs) w w' := by
  have HC := Kp.mk (decLen_calls T pv fr bs ve vu vo vn O D S H gz gs hz hs hzs gd ph A B hgd k w b n r hb hS hd ha)
  have hn := (cbArg_lt ha).1
  have HC2 : Kp (∀ k w, SlS T pv S gz gs k w → k + n ≤ bs.length → Calls Tryz.prog 255 #[.pointer (some ⟨gs, 0, none⟩), .int .i64 n] w fun e w' => ∃ gb cap, w.heap.size ≤ gb ∧ e = .returned (.tuple #[.slice (some ⟨gb, 0, none⟩) n cap, .nilIface]) ∧ RdB w' (some ⟨gb, 0, none⟩) n cap ((bs.drop k).take n) ∧ SlS T pv S gz gs (k + n) w' ∧ Ex (slO O gz gs) w w') := ⟨fun k w h1 h2 => by
    by_cases h32 : n < 32
    · exact readnSmall_calls T pv fr bs ve vu vo vn O D S H gz gs hz hs hzs k n w h1 hn0 h32 h2
    · exact readnBig_calls T pv fr bs ve vu vo vn O D S H gz gs hz hs hzs k n w h1 (by omega) (by omega) h2⟩
  have hm : ∀ W, (method 453 262 (.pointer (some ⟨gs, 0, none⟩)) "Readn").run Tryz.prog W = .ok (255, .pointer (some ⟨gs, 0, none⟩)) W := fun _ => by kernel_rfl
  have HD := Kp.mk hd
  have HN := Kp.mk (fun h => hgd (slO_D H h))
  have HNR := Kp.mk (And.intro hnr hn0)
  clear hS hd H hz hs hzs hgd ha hnr
  go_enter Tryz.func170, Tryz.ntmps170
  go_wp2_with fail
  refine HC.out.mono ?_
  rintro e w1 ⟨rfl, ⟨k1, hk1, h1⟩, h2⟩
  have hd1 : DcAt w1 gd gs ph A B := h2.keep HD.out HN.out
  have c7 : w1.cell? ⟨gd, 7, none⟩ = some (.iface 262 (.pointer (some ⟨gs, 0, none⟩))) := blk_cell hd1 7
  have HC3 := Kp.mk (HC2.out k1 w1 h1 (by have h3 := HNR.out.1; have h0 := HNR.out.2; rw [hk1, List.length_drop] at h3; omega))
  have HK := Kp.mk (And.intro hk1 h2)
  clear h1 h2 hd1 HC HC2 hk1
  go_wp2_with fail
  refine HC3.out.mono ?_
  rintro e w2 ⟨gb, cap, hgb, rfl, h1, h2, h3⟩
  have HK2 := Kp.mk (And.intro hgb (And.intro h1 (And.intro h2 h3)))
  clear h1 h2 h3 HC3 c7 hgb
  go_wp2_with fail
  go_ret2
  exact ⟨gb, cap, Nat.le_trans HK.out.2.size HK2.out.1, rfl, by rw [HK.out.1]; exact HK2.out.2.1, ⟨k1 + n, by rw [HK.out.1, List.drop_drop], HK2.out.2.2.1⟩, HK.out.2.trans HK2.out.2.2.2⟩

end Go.Proofs.YtkcpgcaccgahaaaGreatDoor
namespace Go.Proofs.YtkcpgcaccgahaaaGreatDoor
open Go.RowKit

theorem info_ph : (Tryz.prog.info? 231).map (fun i => (i.zero, i.size, i.bytes)) = some (some (.int .u8 0), 1, 1) := by kernel_rfl
theorem append_ph (W : World) (d L p : Nat) (x : Int) (cs : Array Value) (hd : W.heap[d]? = some (.cells cs 231 (0, 0))) (hs : cs.size = 10) (hL : L < 10) (hp : W.cell? ⟨p, 0, none⟩ = some (.int .u8 x)) :
    (Builtin.append_ #[230, 230] 230 #[.slice (some ⟨d, 0, none⟩) L 10, .slice (some ⟨p, 0, none⟩) 1 1]).run Tryz.prog W = .ok (.slice (some ⟨d, 0, none⟩) (L + 1) 10) (W.setCell ⟨d, L, none⟩ (.int .u8 x)) := by
  obtain ⟨i, hi, _, hs1, _⟩ := info_parts info_ph
  have h := run_append_room_cells (P := Tryz.prog) W 230 230 231 i (by kernel_rfl) hi d 0 L 10 ⟨p, 0, none⟩ 1 1 [.int .u8 x] (by simp [hs1])
    (fun j u hj => by
      match j, hj with
      | 0, hj => simp at hj; subst hj; rw [add_plain]; exact hp)
    (fun u hu => by simp at hu; subst hu; rfl) (by omega)
    (fun j hj => by
      have hj0 : j = 0 := by simpa using hj
      subst hj0
      rw [hs1, blk_cell hd, Array.getElem?_eq_getElem (by omega)]; rfl)
    (fun j hj => blk_frozen hd _)
  rw [h, hs1]
  simp [World.setCells]
theorem info_nn : (Tryz.prog.info? 3).map (fun i => (i.zero, i.size, i.bytes)) = some (some (.int .i64 0), 1, 8) := by kernel_rfl
theorem append_nn (W : World) (d L p : Nat) (x : Int) (cs : Array Value) (hd : W.heap[d]? = some (.cells cs 3 (0, 0))) (hs : cs.size = 10) (hL : L < 10) (hp : W.cell? ⟨p, 0, none⟩ = some (.int .i64 x)) :
    (Builtin.append_ #[109, 109] 109 #[.slice (some ⟨d, 0, none⟩) L 10, .slice (some ⟨p, 0, none⟩) 1 1]).run Tryz.prog W = .ok (.slice (some ⟨d, 0, none⟩) (L + 1) 10) (W.setCell ⟨d, L, none⟩ (.int .i64 x)) := by
  obtain ⟨i, hi, _, hs1, _⟩ := info_parts info_nn
  have h := run_append_room_cells (P := Tryz.prog) W 109 109 3 i (by kernel_rfl) hi d 0 L 10 ⟨p, 0, none⟩ 1 1 [.int .i64 x] (by simp [hs1])
    (fun j u hj => by
      match j, hj with
      | 0, hj => simp at hj; subst hj; rw [add_plain]; exact hp)
    (fun u hu => by simp at hu; subst hu; rfl) (by omega)
    (fun j hj => by
      have hj0 : j = 0 := by simpa using hj
      subst hj0
      rw [hs1, blk_cell hd, Array.getElem?_eq_getElem (by omega)]; rfl)
    (fun j hj => blk_frozen hd _)
  rw [h, hs1]
  simp [World.setCells]

/-- The worlds of a drawn region with three operations, a, b, c, that change memory, one behind the other. -/
def stC (W0 W1 W2 W3 : World) (a b c : Nat) (f : Nat → Bool) : World := if f c then W3 else if f b then W2 else if f a then W1 else W0
theorem stC_upd {W0 W1 W2 W3 : World} {a b c i : Nat} {f : Nat → Bool} (h : i ≠ a ∧ i ≠ b ∧ i ≠ c) : stC W0 W1 W2 W3 a b c f = stC W0 W1 W2 W3 a b c (fun j => if j = i then true else f j) := by
  simp only [stC, if_neg h.1.symm, if_neg h.2.1.symm, if_neg h.2.2.symm]
theorem stC0 {W0 W1 W2 W3 : World} {a b c : Nat} {f : Nat → Bool} (ha : f a = false) (hb : f b = false) (hc : f c = false) : stC W0 W1 W2 W3 a b c f = W0 := by simp [stC, ha, hb, hc]
theorem stC1 {W0 W1 W2 W3 : World} {a b c : Nat} {f : Nat → Bool} (ha : f a = true) (hb : f b = false) (hc : f c = false) : stC W0 W1 W2 W3 a b c f = W1 := by simp [stC, ha, hb, hc]
theorem stC2 {W0 W1 W2 W3 : World} {a b c : Nat} {f : Nat → Bool} (hb : f b = true) (hc : f c = false) : stC W0 W1 W2 W3 a b c f = W2 := by simp [stC, hb, hc]
theorem stC_cell {W0 W1 W2 W3 : World} {a b c : Nat} {f : Nat → Bool} {p : Addr} {v : Value} (hc : f c = false) (h0 : W0.cell? p = some v) (h1 : W1.cell? p = some v) (h2 : W2.cell? p = some v) : (stC W0 W1 W2 W3 a b c f).cell? p = some v := by
  unfold stC; rw [hc]
  simp only [Bool.false_eq_true, if_false]
  split
  · exact h2
  · split
    · exact h1
    · exact h0
def ppV (gd gk ph p q : Nat) (i : Nat) : Value :=
  match i with
  | 0 => .pointer (some ⟨gd, 0, none⟩)
  | 1 => .pointer (some ⟨gd, 0, none⟩)
  | 2 => .pointer (some ⟨gd, 0, none⟩)
  | 3 => .pointer (some ⟨gd, 8, none⟩)
  | 4 => .slice (some ⟨gk, 0, none⟩) p 10
  | 5 => .pointer (some ⟨gd, 0, none⟩)
  | 6 => .pointer (some ⟨gd, 0, none⟩)
  | 7 => .pointer (some ⟨gd, 9, none⟩)
  | 8 => .int .u8 ph
  | 9 => .slice (some ⟨q, 0, none⟩) 1 1
  | 10 => .slice (some ⟨gk, 0, none⟩) (p + 1) 10
  | 11 => .pointer (some ⟨gd, 0, none⟩)
  | 12 => .pointer (some ⟨gd, 8, none⟩)
  | 13 => undef
  | _ => undef

set_option maxHeartbeats 8000000 in
set_option maxRecDepth 100000 in
/-- (*Decoder).pushPhase. -/
theorem pushPhase_calls (gd gs gk ph np p : Nat) (B : Value) (ck : Array Value) (w : World) (hd : DcAt w gd gs ph (.slice (some ⟨gk, 0, none⟩) p 10) B) (hk : w.heap[gk]? = some (.cells ck 231 (0, 0))) (hs : ck.size = 10) (hp : p < 10) (hne : gk ≠ gd) :
    Calls Tryz.prog 167 #[.pointer (some ⟨gd, 0, none⟩), .int .u8 np] w fun e w' => e = .returned (.tuple #[]) ∧ DcAt w' gd gs np (.slice (some ⟨gk, 0, none⟩) (p + 1) 10) B ∧ w'.heap[gk]? = some (.cells (ck.setIfInBounds p (.int .u8 ph)) 231 (0, 0)) ∧ Ex (fun x => x = gd ∨ x = gk) w w' := by
  obtain ⟨q, hq⟩ : ∃ q, q = w.heap.size := ⟨_, rfl⟩
  obtain ⟨U0, hU0⟩ : ∃ W, W = w.drew := ⟨_, rfl⟩
  obtain ⟨U1, hU1⟩ : ∃ W, W = U0.alloc (.cells #[.int .u8 (ph : Int)] 231) := ⟨_, rfl⟩
  obtain ⟨U2, hU2⟩ : ∃ W, W = U1.setCell ⟨gk, p, none⟩ (.int .u8 (ph : Int)) := ⟨_, rfl⟩
  obtain ⟨U3, hU3⟩ : ∃ W, W = U2.setCell ⟨gd, 8, none⟩ (.slice (some ⟨gk, 0, none⟩) (p + 1) 10) := ⟨_, rfl⟩
  have hd0 : DcAt U0 gd gs ph (.slice (some ⟨gk, 0, none⟩) p 10) B := by rw [hU0]; exact hd
  have hk0 : U0.heap[gk]? = some (.cells ck 231 (0, 0)) := by rw [hU0]; exact hk
  have hq0 : q = U0.heap.size := by rw [hU0]; exact hq
  have hal : Below U0.heap.size U0 U1 := by rw [hU1]; exact bel_alloc (Below.refl _ _) _
  have hd1 : DcAt U1 gd gs ph (.slice (some ⟨gk, 0, none⟩) p 10) B := blk_keep hd0 hal
  have hk1 := blk_keep hk0 hal
  have hd2 : DcAt U2 gd gs ph (.slice (some ⟨gk, 0, none⟩) p 10) B := by rw [hU2]; exact blk_far (p := ⟨gk, p, none⟩) hd1 (by show gd ≠ gk; exact hne.symm) _
  have hcq : U1.cell? ⟨q, 0, none⟩ = some (.int .u8 (ph : Int)) := by rw [hU1, hq0]; exact blk_cell (blk_new (w := U0) (Below.refl _ _)) 0
  have hap := append_ph U1 gk p q ph ck hk1 hs hp hcq
  rw [← hU2] at hap
  have HAP := Kp.mk hap
  have HC8 : Kp (U0.cell? ⟨gd, 8, none⟩ = some (.slice (some ⟨gk, 0, none⟩) p 10) ∧ U1.cell? ⟨gd, 8, none⟩ = some (.slice (some ⟨gk, 0, none⟩) p 10) ∧ U2.cell? ⟨gd, 8, none⟩ = some (.slice (some ⟨gk, 0, none⟩) p 10)) := ⟨blk_cell hd0 8, blk_cell hd1 8, blk_cell hd2 8⟩
  have HC9 : Kp (U0.cell? ⟨gd, 9, none⟩ = some (.int .u8 ph) ∧ U1.cell? ⟨gd, 9, none⟩ = some (.int .u8 ph) ∧ U2.cell? ⟨gd, 9, none⟩ = some (.int .u8 ph)) := ⟨blk_cell hd0 9, blk_cell hd1 9, blk_cell hd2 9⟩
  have HF8 := Kp.mk (blk_frozen hd2 8)
  have hd3 : DcAt U3 gd gs ph (.slice (some ⟨gk, 0, none⟩) (p + 1) 10) B := by rw [hU3]; exact blk_set hd2 8 _
  have hk3 : U3.heap[gk]? = some (.cells (ck.setIfInBounds p (.int .u8 ph)) 231 (0, 0)) := by rw [hU3]; exact blk_far (p := ⟨gd, 8, none⟩) (by rw [hU2]; exact blk_set hk1 p _) hne _
  have hx3 : Ex (fun x => x = gd ∨ x = gk) w U3 := by
    rw [hU3, hU2]
    exact Ex.setCell (P := fun x => x = gd ∨ x = gk) (p := ⟨gd, 8, none⟩) (Ex.setCell (P := fun x => x = gd ∨ x = gk) (p := ⟨gk, p, none⟩) ((Ex.of_below (by rw [hU0]; exact bel_drew (Below.refl _ _))).trans (Ex.of_below hal)) (.inr rfl) _) (.inl rfl) _
  have HE := Kp.mk (And.intro hd3 (And.intro hk3 hx3))
  have HU0 := Kp.mk hU0
  have HU1 := Kp.mk hU1
  have HU2 := Kp.mk hU2
  have HU3 := Kp.mk hU3
  have HQ := Kp.mk hq0
  have HNE := Kp.mk hne
  clear hd hk hs hp hne hd0 hk0 hal hd1 hk1 hd2 hcq hap hd3 hk3 hx3 hU0 hU1 hU2 hU3 hq hq0
  go_enter Tryz.func167, Tryz.ntmps167
  go_wp2_with fail
  refine wp_region_growS (by kernel_rfl) 14 (by kernel_rfl) (ppV gd gk ph p q) (stC U0 U1 U2 U3 9 10 13) HU0.out.symm (apart_of (by kernel_rfl)) (by kernel_rfl) ?_ ?_
  · intro i hi ob ho f vs hfi hn hpre hw
    rcases i with _ | _ | _ | _ | _ | _ | _ | _ | _ | _ | _ | _ | _ | _ | i
    · clear hn hpre hw
      obtain rfl := Option.some.inj ho
      simp only [canon, List.range, List.range.loop, List.foldl]
      go_simp
      exact ⟨rfl, stC_upd (i := 0) (by decide)⟩
    · clear hn hpre hw
      obtain rfl := Option.some.inj ho
      simp only [canon, List.range, List.range.loop, List.foldl]
      go_simp
      exact ⟨rfl, stC_upd (i := 1) (by decide)⟩
    · have e1 : vs 1 = _ := hpre 1 (by decide) (by obtain rfl := Option.some.inj ho; rfl)
      simp only [ppV] at e1
      clear hn hpre hw
      obtain rfl := Option.some.inj ho
      simp only [canon, List.range, List.range.loop, List.foldl]
      go_simp
      exact ⟨rfl, stC_upd (i := 2) (by decide)⟩
    · have e2 : vs 2 = _ := hpre 2 (by decide) (by obtain rfl := Option.some.inj ho; rfl)
      simp only [ppV] at e2
      clear hn hpre hw
      obtain rfl := Option.some.inj ho
      simp only [canon, List.range, List.range.loop, List.foldl]
      go_simp
      exact ⟨rfl, stC_upd (i := 3) (by decide)⟩
    · have e3 : vs 3 = _ := hpre 3 (by decide) (by obtain rfl := Option.some.inj ho; rfl)
      simp only [ppV] at e3
      have h : f 13 = false := hn 13 _ rfl (by kernel_rfl)
      have c8 := stC_cell (a := 9) (b := 10) (W3 := U3) h HC8.out.1 HC8.out.2.1 HC8.out.2.2
      clear hn hpre hw
      obtain rfl := Option.some.inj ho
      simp only [canon, List.range, List.range.loop, List.foldl]
      go_simp
      exact ⟨rfl, stC_upd (i := 4) (by decide)⟩
    · clear hn hpre hw
      obtain rfl := Option.some.inj ho
      simp only [canon, List.range, List.range.loop, List.foldl]
      go_simp
      exact ⟨rfl, stC_upd (i := 5) (by decide)⟩
    · have e5 : vs 5 = _ := hpre 5 (by decide) (by obtain rfl := Option.some.inj ho; rfl)
      simp only [ppV] at e5
      clear hn hpre hw
      obtain rfl := Option.some.inj ho
      simp only [canon, List.range, List.range.loop, List.foldl]
      go_simp
      exact ⟨rfl, stC_upd (i := 6) (by decide)⟩
    · have e6 : vs 6 = _ := hpre 6 (by decide) (by obtain rfl := Option.some.inj ho; rfl)
      simp only [ppV] at e6
      clear hn hpre hw
      obtain rfl := Option.some.inj ho
      simp only [canon, List.range, List.range.loop, List.foldl]
      go_simp
      exact ⟨rfl, stC_upd (i := 7) (by decide)⟩
    · have e7 : vs 7 = _ := hpre 7 (by decide) (by obtain rfl := Option.some.inj ho; rfl)
      simp only [ppV] at e7
      have h : f 13 = false := hn 13 _ rfl (by kernel_rfl)
      have c9 := stC_cell (a := 9) (b := 10) (W3 := U3) h HC9.out.1 HC9.out.2.1 HC9.out.2.2
      clear hn hpre hw
      obtain rfl := Option.some.inj ho
      simp only [canon, List.range, List.range.loop, List.foldl]
      go_simp
      exact ⟨rfl, stC_upd (i := 8) (by decide)⟩
    · have e8 : vs 8 = _ := hpre 8 (by decide) (by obtain rfl := Option.some.inj ho; rfl)
      simp only [ppV] at e8
      have hb : f 10 = false := hn 10 _ rfl (by kernel_rfl)
      have hc : f 13 = false := hn 13 _ rfl (by kernel_rfl)
      rw [stC0 hfi hb hc]
      clear hn hpre hw
      obtain rfl := Option.some.inj ho
      simp only [canon, List.range, List.range.loop, List.foldl]
      go_simp
      exact ⟨by first | rfl | (simp [ppV]; exact HQ.out.symm), by simp [stC, hb, hc]; first | rfl | exact HU1.out.symm | exact HU1.out⟩
    · have e4 : vs 4 = _ := hpre 4 (by decide) (by obtain rfl := Option.some.inj ho; rfl)
      have e9 : vs 9 = _ := hpre 9 (by decide) (by obtain rfl := Option.some.inj ho; rfl)
      simp only [ppV] at e4 e9
      have ha : f 9 = true := hw 9 (by obtain rfl := Option.some.inj ho; kernel_rfl)
      have hc : f 13 = false := hn 13 _ rfl (by kernel_rfl)
      rw [stC1 ha hfi hc]
      have hap := HAP.out
      clear hn hpre hw
      obtain rfl := Option.some.inj ho
      simp only [canon, List.range, List.range.loop, List.foldl]
      refine Lib.wp_append_run _ _ _ _ _ rfl (.slice (some ⟨gk, 0, none⟩) p 10) (.slice (some ⟨q, 0, none⟩) 1 1) ?_ ?_ _ _ HAP.out ?_
      · go_simp
      · go_simp
      · refine ⟨_, rfl, rfl, ?_⟩
        simp [stC, hc]
    · have e0 : vs 0 = _ := hpre 0 (by decide) (by obtain rfl := Option.some.inj ho; rfl)
      simp only [ppV] at e0
      clear hn hpre hw
      obtain rfl := Option.some.inj ho
      simp only [canon, List.range, List.range.loop, List.foldl]
      go_simp
      exact ⟨rfl, stC_upd (i := 11) (by decide)⟩
    · have e11 : vs 11 = _ := hpre 11 (by decide) (by obtain rfl := Option.some.inj ho; rfl)
      simp only [ppV] at e11
      clear hn hpre hw
      obtain rfl := Option.some.inj ho
      simp only [canon, List.range, List.range.loop, List.foldl]
      go_simp
      exact ⟨rfl, stC_upd (i := 12) (by decide)⟩
    · have e12 : vs 12 = _ := hpre 12 (by decide) (by obtain rfl := Option.some.inj ho; rfl)
      have e10 : vs 10 = _ := hpre 10 (by decide) (by obtain rfl := Option.some.inj ho; rfl)
      simp only [ppV] at e12 e10
      have hb : f 10 = true := hw 10 (by obtain rfl := Option.some.inj ho; kernel_rfl)
      rw [stC2 hb hfi]
      have c8 := HC8.out.2.2
      have f8 := HF8.out
      clear hn hpre hw
      obtain rfl := Option.some.inj ho
      simp only [canon, List.range, List.range.loop, List.foldl]
      go_simp
      simp [stC]
      first | done | exact HU3.out.symm | exact HU3.out
    · omega
  · intro vs hvs
    change wpAny _ _ _ _ _ _ _ U3
    rw [canon_congr (us := ppV gd gk ph p q) hvs]
    clear hvs
    refine wpAny_none (by kernel_rfl) ?_ _
    simp only [canon, List.range, List.range.loop, List.foldl, ppV]
    have c9 : U3.cell? ⟨gd, 9, none⟩ = some (.int .u8 ph) := blk_cell HE.out.1 9
    have f9 := blk_frozen HE.out.1 9
    have HEE := Kp.mk (blk_set HE.out.1 9 (.int .u8 (np : Int)))
    go_wp2_with fail
    go_end0
    exact ⟨rfl, HEE.out, blk_far (p := ⟨gd, 9, none⟩) HE.out.2.1 HNE.out _, Ex.setCell (P := fun x => x = gd ∨ x = gk) (p := ⟨gd, 9, none⟩) HE.out.2.2 (.inl rfl) _⟩

end Go.Proofs.YtkcpgcaccgahaaaGreatDoor
namespace Go.Proofs.YtkcpgcaccgahaaaGreatDoor
open Go.RowKit

theorem blk_in {w : World} {g : Nat} {t : TypeId} {cs : Array Value} (h : w.heap[g]? = some (.cells cs t (0, 0))) (i : Nat) (hi : i < cs.size) : ∃ v, w.cell? ⟨g, i, none⟩ = some v := ⟨cs[i], by rw [blk_cell h, Array.getElem?_eq_getElem hi]⟩
theorem cbArg_24 {v n : Nat} {r r' : List UInt8} (h : cbArg v r = some (n, r')) : v ≤ 24 := by
  unfold cbArg at h
  split at h
  · omega
  split at h
  · omega
  · cases h

set_option maxHeartbeats 8000000 in
set_option maxRecDepth 100000 in
/-- A whole number. -/
theorem valUint_calls (T : TypeId) (pv : Value) (fr : FuncId) (bs : List UInt8) (ve vu vo vn : Value) (O D : Nat → Prop) (S : Nat → World → Prop) (H : Src T pv fr bs ve vu vo vn O D S) (gz gs : Nat) (hz : ¬ D gz) (hs : ¬ D gs) (hzs : gz ≠ gs) (gd ph : Nat) (A B : Value) (hgd : ¬ slD D gz gs gd) (k : Nat) (w : World) (b n : Nat) (r : List UInt8) (hb : b < 32) (hS : SlS T pv S gz gs k w) (hd : DcAt w gd gs ph A B) (gt : Nat) (tcs : Array Value) (hgt : ¬ slD D gz gs gt) (hdt : gt ≠ gd) (ht : w.heap[gt]? = some (.cells tcs 192 (0, 0))) (hts : tcs.size = 10) (ha : cbArg (b % 32) (bs.drop k) = some (n, r)) :
    Calls Tryz.prog 154 #[.pointer (some ⟨gd, 0, none⟩), .int .u8 b, .pointer (some ⟨gt, 0, none⟩)] w fun e w' => (∃ dn, e = .returned (.tuple #[.bool dn, .nilIface])) ∧ (∃ k', r = bs.drop k' ∧ SlS T pv S gz gs k' w') ∧ w'.heap[gt]? = some (.cells ((tcs.setIfInBounds 0 (.int .u8 117)).setIfInBounds 6 (.int .u64 n)) 192 (0, 0)) ∧ Ex (fun x => slO O gz gs x ∨ x = gt) w w' := by
  have h24 := cbArg_24 ha
  have q246 : ((b : Int) == 246) = false := beq_eq_false_iff_ne.2 (by omega)
  have q247 : ((b : Int) == 247) = false := beq_eq_false_iff_ne.2 (by omega)
  have q244 : ((b : Int) == 244) = false := beq_eq_false_iff_ne.2 (by omega)
  have q245 : ((b : Int) == 245) = false := beq_eq_false_iff_ne.2 (by omega)
  have q249 : ((b : Int) == 249) = false := beq_eq_false_iff_ne.2 (by omega)
  have q250 : ((b : Int) == 250) = false := beq_eq_false_iff_ne.2 (by omega)
  have q251 : ((b : Int) == 251) = false := beq_eq_false_iff_ne.2 (by omega)
  have q95 : ((b : Int) == 95) = false := beq_eq_false_iff_ne.2 (by omega)
  have q127 : ((b : Int) == 127) = false := beq_eq_false_iff_ne.2 (by omega)
  have q159 : ((b : Int) == 159) = false := beq_eq_false_iff_ne.2 (by omega)
  have q191 : ((b : Int) == 191) = false := beq_eq_false_iff_ne.2 (by omega)
  have f0 := blk_frozen ht 0
  obtain ⟨v0, c0⟩ := blk_in ht 0 (by omega)
  have hset := blk_set ht 0 (.int .u8 117)
  have hx0 : Ex (fun x => x = gt) w (w.setCell ⟨gt, 0, none⟩ (.int .u8 117)) := (Ex.refl (fun x => x = gt) _).setCell (p := ⟨gt, 0, none⟩) rfl _
  have hS0 := hS.frame H (hx0.mono (fun x hx hd => hgt (hx ▸ hd)))
  have hd0 : DcAt (w.setCell ⟨gt, 0, none⟩ (.int .u8 117)) gd gs ph A B := blk_far (p := ⟨gt, 0, none⟩) hd (by show gd ≠ gt; exact hdt.symm) _
  have HC := Kp.mk (decUint_calls T pv fr bs ve vu vo vn O D S H gz gs hz hs hzs gd ph A B hgd k _ b n r (by omega) hS0 hd0 ha)
  have HH := Kp.mk H
  have HX := Kp.mk (And.intro hset (And.intro hx0 (And.intro hgt hts)))
  clear H hz hs hzs hgd hS hd hgt hdt ht ha hset hx0 hS0 hd0
  go_enter Tryz.func154, Tryz.ntmps154
  go_wp2_with fail
  refine HC.out.mono ?_
  rintro e w1 ⟨rfl, h1, h2⟩
  have ht1 := h2.keep HX.out.1 (fun h => HX.out.2.2.1 (slO_D HH.out h))
  obtain ⟨v6, c6⟩ := blk_in ht1 6 (by have := HX.out.2.2.2; simp; omega)
  have f6 := blk_frozen ht1 6
  have hx6 : Ex (fun x => x = gt) w1 (w1.setCell ⟨gt, 6, none⟩ (.int .u64 n)) := (Ex.refl (fun x => x = gt) _).setCell (p := ⟨gt, 6, none⟩) rfl _
  have HK := Kp.mk (And.intro h1 (And.intro h2 (And.intro ht1 hx6)))
  clear h1 h2 ht1 hx6 HC c0 f0
  go_wp2_with fail
  go_ret2
  obtain ⟨h1, h2, ht1, hx6⟩ := HK.out
  obtain ⟨hset, hx0, hgt, hts⟩ := HX.out
  obtain ⟨k', hk', hs'⟩ := h1
  have hS' := hs'.frame HH.out (hx6.mono (fun x hx hd => hgt (hx ▸ hd)))
  have hx : Ex (fun x => slO O gz gs x ∨ x = gt) w (w1.setCell ⟨gt, 6, none⟩ (.int .u64 n)) := ((hx0.mono (fun x hx => .inr hx)).trans (h2.mono (fun x hx => .inl hx))).trans (hx6.mono (fun x hx => .inr hx))
  exact ⟨⟨_, rfl⟩, ⟨k', hk', hS'⟩, blk_set ht1 6 _, hx⟩

set_option maxHeartbeats 8000000 in
set_option maxRecDepth 100000 in
/-- A text. -/
theorem valStr_calls (T : TypeId) (pv : Value) (fr : FuncId) (bs : List UInt8) (ve vu vo vn : Value) (O D : Nat → Prop) (S : Nat → World → Prop) (H : Src T pv fr bs ve vu vo vn O D S) (gz gs : Nat) (hz : ¬ D gz) (hs : ¬ D gs) (hzs : gz ≠ gs) (gd ph : Nat) (A B : Value) (hgd : ¬ slD D gz gs gd) (k : Nat) (w : World) (b n : Nat) (r : List UInt8) (hl : 96 ≤ b) (hb : b < 128) (hS : SlS T pv S gz gs k w) (hd : DcAt w gd gs ph A B) (gt : Nat) (tcs : Array Value) (hgt : ¬ slD D gz gs gt) (hdt : gt ≠ gd) (ht : w.heap[gt]? = some (.cells tcs 192 (0, 0))) (hts : tcs.size = 10) (ha : cbArg (b % 32) (bs.drop k) = some (n, r)) (hn0 : 0 < n) (hn : n < 32) (hnr : n ≤ r.length) :
    Calls Tryz.prog 154 #[.pointer (some ⟨gd, 0, none⟩), .int .u8 b, .pointer (some ⟨gt, 0, none⟩)] w fun e w' => (∃ dn, e = .returned (.tuple #[.bool dn, .nilIface])) ∧ (∃ k', r.drop n = bs.drop k' ∧ SlS T pv S gz gs k' w') ∧ w'.heap[gt]? = some (.cells ((tcs.setIfInBounds 0 (.int .u8 115)).setIfInBounds 2 (.string (strB (r.take n)))) 192 (0, 0)) ∧ Ex (fun x => slO O gz gs x ∨ x = gt) w w' := by
  have h24 := cbArg_24 ha
  have q246 : ((b : Int) == 246) = false := beq_eq_false_iff_ne.2 (by omega)
  have q247 : ((b : Int) == 247) = false := beq_eq_false_iff_ne.2 (by omega)
  have q244 : ((b : Int) == 244) = false := beq_eq_false_iff_ne.2 (by omega)
  have q245 : ((b : Int) == 245) = false := beq_eq_false_iff_ne.2 (by omega)
  have q249 : ((b : Int) == 249) = false := beq_eq_false_iff_ne.2 (by omega)
  have q250 : ((b : Int) == 250) = false := beq_eq_false_iff_ne.2 (by omega)
  have q251 : ((b : Int) == 251) = false := beq_eq_false_iff_ne.2 (by omega)
  have q95 : ((b : Int) == 95) = false := beq_eq_false_iff_ne.2 (by omega)
  have q127 : ((b : Int) == 127) = false := beq_eq_false_iff_ne.2 (by omega)
  have q159 : ((b : Int) == 159) = false := beq_eq_false_iff_ne.2 (by omega)
  have q191 : ((b : Int) == 191) = false := beq_eq_false_iff_ne.2 (by omega)
  have f0 := blk_frozen ht 0
  obtain ⟨v0, c0⟩ := blk_in ht 0 (by omega)
  have hset := blk_set ht 0 (.int .u8 115)
  have hx0 : Ex (fun x => x = gt) w (w.setCell ⟨gt, 0, none⟩ (.int .u8 115)) := (Ex.refl (fun x => x = gt) _).setCell (p := ⟨gt, 0, none⟩) rfl _
  have hS0 := hS.frame H (hx0.mono (fun x hx hd => hgt (hx ▸ hd)))
  have hd0 : DcAt (w.setCell ⟨gt, 0, none⟩ (.int .u8 115)) gd gs ph A B := blk_far (p := ⟨gt, 0, none⟩) hd (by show gd ≠ gt; exact hdt.symm) _
  have HC := Kp.mk (decStr_calls T pv fr bs ve vu vo vn O D S H gz gs hz hs hzs gd ph A B hgd k _ b n r (by omega) hS0 hd0 ha hn0 hn hnr)
  have HH := Kp.mk H
  have HX := Kp.mk (And.intro hset (And.intro hx0 (And.intro hgt hts)))
  clear H hz hs hzs hgd hS hd hgt hdt ht ha hset hx0 hS0 hd0
  go_enter Tryz.func154, Tryz.ntmps154
  go_wp2_with fail
  refine HC.out.mono ?_
  rintro e w1 ⟨rfl, h1, h2⟩
  have ht1 := h2.keep HX.out.1 (fun h => HX.out.2.2.1 (slO_D HH.out h))
  obtain ⟨v6, c6⟩ := blk_in ht1 2 (by have := HX.out.2.2.2; simp; omega)
  have f6 := blk_frozen ht1 2
  have hx6 : Ex (fun x => x = gt) w1 (w1.setCell ⟨gt, 2, none⟩ (.string (strB (r.take n)))) := (Ex.refl (fun x => x = gt) _).setCell (p := ⟨gt, 2, none⟩) rfl _
  have HK := Kp.mk (And.intro h1 (And.intro h2 (And.intro ht1 hx6)))
  clear h1 h2 ht1 hx6 HC c0 f0
  go_wp2_with fail
  go_ret2
  obtain ⟨h1, h2, ht1, hx6⟩ := HK.out
  obtain ⟨hset, hx0, hgt, hts⟩ := HX.out
  obtain ⟨k', hk', hs'⟩ := h1
  have hS' := hs'.frame HH.out (hx6.mono (fun x hx hd => hgt (hx ▸ hd)))
  have hx : Ex (fun x => slO O gz gs x ∨ x = gt) w (w1.setCell ⟨gt, 2, none⟩ (.string (strB (r.take n)))) := ((hx0.mono (fun x hx => .inr hx)).trans (h2.mono (fun x hx => .inl hx))).trans (hx6.mono (fun x hx => .inr hx))
  exact ⟨⟨_, rfl⟩, ⟨k', hk', hS'⟩, blk_set ht1 2 _, hx⟩

set_option maxHeartbeats 8000000 in
set_option maxRecDepth 100000 in
/-- A byte string. -/
theorem valByt_calls (T : TypeId) (pv : Value) (fr : FuncId) (bs : List UInt8) (ve vu vo vn : Value) (O D : Nat → Prop) (S : Nat → World → Prop) (H : Src T pv fr bs ve vu vo vn O D S) (gz gs : Nat) (hz : ¬ D gz) (hs : ¬ D gs) (hzs : gz ≠ gs) (gd ph : Nat) (A B : Value) (hgd : ¬ slD D gz gs gd) (k : Nat) (w : World) (b n : Nat) (r : List UInt8) (hl : 64 ≤ b) (hb : b < 96) (hS : SlS T pv S gz gs k w) (hd : DcAt w gd gs ph A B) (gt : Nat) (tcs : Array Value) (hgt : ¬ slD D gz gs gt) (hdt : gt ≠ gd) (ht : w.heap[gt]? = some (.cells tcs 192 (0, 0))) (hts : tcs.size = 10) (ha : cbArg (b % 32) (bs.drop k) = some (n, r)) (hn0 : 0 < n) (hnr : n ≤ r.length) :
    Calls Tryz.prog 154 #[.pointer (some ⟨gd, 0, none⟩), .int .u8 b, .pointer (some ⟨gt, 0, none⟩)] w fun e w' => (∃ dn, e = .returned (.tuple #[.bool dn, .nilIface])) ∧ (∃ k', r.drop n = bs.drop k' ∧ SlS T pv S gz gs k' w') ∧ (∃ gb cap, w.heap.size ≤ gb ∧ RdB w' (some ⟨gb, 0, none⟩) n cap (r.take n) ∧ w'.heap[gt]? = some (.cells ((tcs.setIfInBounds 0 (.int .u8 120)).setIfInBounds 3 (.slice (some ⟨gb, 0, none⟩) n cap)) 192 (0, 0))) ∧ Ex (fun x => slO O gz gs x ∨ x = gt) w w' := by
  have h24 := cbArg_24 ha
  have q246 : ((b : Int) == 246) = false := beq_eq_false_iff_ne.2 (by omega)
  have q247 : ((b : Int) == 247) = false := beq_eq_false_iff_ne.2 (by omega)
  have q244 : ((b : Int) == 244) = false := beq_eq_false_iff_ne.2 (by omega)
  have q245 : ((b : Int) == 245) = false := beq_eq_false_iff_ne.2 (by omega)
  have q249 : ((b : Int) == 249) = false := beq_eq_false_iff_ne.2 (by omega)
  have q250 : ((b : Int) == 250) = false := beq_eq_false_iff_ne.2 (by omega)
  have q251 : ((b : Int) == 251) = false := beq_eq_false_iff_ne.2 (by omega)
  have q95 : ((b : Int) == 95) = false := beq_eq_false_iff_ne.2 (by omega)
  have q127 : ((b : Int) == 127) = false := beq_eq_false_iff_ne.2 (by omega)
  have q159 : ((b : Int) == 159) = false := beq_eq_false_iff_ne.2 (by omega)
  have q191 : ((b : Int) == 191) = false := beq_eq_false_iff_ne.2 (by omega)
  have f0 := blk_frozen ht 0
  obtain ⟨v0, c0⟩ := blk_in ht 0 (by omega)
  have hset := blk_set ht 0 (.int .u8 120)
  have hx0 : Ex (fun x => x = gt) w (w.setCell ⟨gt, 0, none⟩ (.int .u8 120)) := (Ex.refl (fun x => x = gt) _).setCell (p := ⟨gt, 0, none⟩) rfl _
  have hS0 := hS.frame H (hx0.mono (fun x hx hd => hgt (hx ▸ hd)))
  have hd0 : DcAt (w.setCell ⟨gt, 0, none⟩ (.int .u8 120)) gd gs ph A B := blk_far (p := ⟨gt, 0, none⟩) hd (by show gd ≠ gt; exact hdt.symm) _
  have HC := Kp.mk (decByt_calls T pv fr bs ve vu vo vn O D S H gz gs hz hs hzs gd ph A B hgd k _ b n r (by omega) hS0 hd0 ha hn0 hnr)
  have HH := Kp.mk H
  have HX := Kp.mk (And.intro hset (And.intro hx0 (And.intro hgt hts)))
  have HT := Kp.mk ht
  clear H hz hs hzs hgd hS hd hgt hdt ht ha hset hx0 hS0 hd0
  go_enter Tryz.func154, Tryz.ntmps154
  go_wp2_with fail
  refine HC.out.mono ?_
  rintro e w1 ⟨gb, cap, hgb, rfl, hrd, h1, h2⟩
  have HRD := Kp.mk (And.intro hgb hrd)
  have hgtw : gt < w.heap.size := (Array.getElem?_eq_some_iff.1 HT.out).1
  have HGW := Kp.mk hgtw
  clear hgb hrd hgtw
  have ht1 := h2.keep HX.out.1 (fun h => HX.out.2.2.1 (slO_D HH.out h))
  obtain ⟨v6, c6⟩ := blk_in ht1 3 (by have := HX.out.2.2.2; simp; omega)
  have f6 := blk_frozen ht1 3
  have hx6 : Ex (fun x => x = gt) w1 (w1.setCell ⟨gt, 3, none⟩ (.slice (some ⟨gb, 0, none⟩) n cap)) := (Ex.refl (fun x => x = gt) _).setCell (p := ⟨gt, 3, none⟩) rfl _
  have HK := Kp.mk (And.intro h1 (And.intro h2 (And.intro ht1 hx6)))
  clear h1 h2 ht1 hx6 HC c0 f0
  go_wp2_with fail
  go_ret2
  obtain ⟨h1, h2, ht1, hx6⟩ := HK.out
  obtain ⟨hset, hx0, hgt, hts⟩ := HX.out
  obtain ⟨k', hk', hs'⟩ := h1
  have hS' := hs'.frame HH.out (hx6.mono (fun x hx hd => hgt (hx ▸ hd)))
  have hx : Ex (fun x => slO O gz gs x ∨ x = gt) w (w1.setCell ⟨gt, 3, none⟩ (.slice (some ⟨gb, 0, none⟩) n cap)) := ((hx0.mono (fun x hx => .inr hx)).trans (h2.mono (fun x hx => .inl hx))).trans (hx6.mono (fun x hx => .inr hx))
  exact ⟨⟨_, rfl⟩, ⟨k', hk', hS'⟩, ⟨gb, cap, Nat.le_trans hx0.size HRD.out.1, HRD.out.2.far (p := ⟨gt, 3, none⟩) (by have h1 := HRD.out.1; have h2 := hx0.size; have h3 := HGW.out; show gb ≠ gt; omega), blk_set ht1 3 _⟩, hx⟩

end Go.Proofs.YtkcpgcaccgahaaaGreatDoor
namespace Go.Proofs.YtkcpgcaccgahaaaGreatDoor
open Go.RowKit

def plV (gd gl q n z : Nat) (i : Nat) : Value :=
  match i with
  | 0 => .pointer (some ⟨gd, 0, none⟩)
  | 1 => .pointer (some ⟨gd, 0, none⟩)
  | 2 => .pointer (some ⟨gd, 0, none⟩)
  | 3 => .pointer (some ⟨gd, 10, none⟩)
  | 4 => .slice (some ⟨gl, 0, none⟩) q 10
  | 5 => .int .i64 n
  | 6 => .slice (some ⟨z, 0, none⟩) 1 1
  | 7 => .slice (some ⟨gl, 0, none⟩) (q + 1) 10
  | 8 => .pointer (some ⟨gd, 0, none⟩)
  | 9 => .pointer (some ⟨gd, 10, none⟩)
  | 10 => undef
  | _ => undef

set_option maxHeartbeats 8000000 in
set_option maxRecDepth 100000 in
/-- An array's head. -/
theorem valArr_calls (T : TypeId) (pv : Value) (fr : FuncId) (bs : List UInt8) (ve vu vo vn : Value) (O D : Nat → Prop) (S : Nat → World → Prop) (H : Src T pv fr bs ve vu vo vn O D S) (gz gs : Nat) (hz : ¬ D gz) (hs : ¬ D gs) (hzs : gz ≠ gs) (gd gk gl gt ph p q : Nat) (ck cl tcs : Array Value) (k : Nat) (w : World) (b n : Nat) (r : List UInt8) (hl : 128 ≤ b) (hb : b < 160) (hD : ¬ slD D gz gs gd ∧ ¬ slD D gz gs gk ∧ ¬ slD D gz gs gl ∧ ¬ slD D gz gs gt) (hN : gt ≠ gd ∧ gl ≠ gt ∧ gk ≠ gd ∧ gl ≠ gd ∧ gl ≠ gk ∧ gt ≠ gk ∧ True) (hS : SlS T pv S gz gs k w) (hd : DcAt w gd gs ph (.slice (some ⟨gk, 0, none⟩) p 10) (.slice (some ⟨gl, 0, none⟩) q 10)) (hk : w.heap[gk]? = some (.cells ck 231 (0, 0))) (hks : ck.size = 10) (hp : p < 10) (hll : w.heap[gl]? = some (.cells cl 3 (0, 0))) (hls : cl.size = 10) (hq : q < 10) (ht : w.heap[gt]? = some (.cells tcs 192 (0, 0))) (hts : tcs.size = 10) (ha : cbArg (b % 32) (bs.drop k) = some (n, r)) :
    Calls Tryz.prog 154 #[.pointer (some ⟨gd, 0, none⟩), .int .u8 b, .pointer (some ⟨gt, 0, none⟩)] w fun e w' => e = .returned (.tuple #[.bool false, .nilIface]) ∧ (∃ k', r = bs.drop k' ∧ SlS T pv S gz gs k' w') ∧ DcAt w' gd gs 4 (.slice (some ⟨gk, 0, none⟩) (p + 1) 10) (.slice (some ⟨gl, 0, none⟩) (q + 1) 10) ∧ w'.heap[gk]? = some (.cells (ck.setIfInBounds p (.int .u8 ph)) 231 (0, 0)) ∧ w'.heap[gl]? = some (.cells (cl.setIfInBounds q (.int .i64 n)) 3 (0, 0)) ∧ w'.heap[gt]? = some (.cells ((tcs.setIfInBounds 0 (.int .u8 91)).setIfInBounds 1 (.int .i64 n)) 192 (0, 0)) ∧ Ex (fun x => slO O gz gs x ∨ x = gt ∨ x = gd ∨ x = gk ∨ x = gl) w w' := by
  have h24 := cbArg_24 ha
  have q246 : ((b : Int) == 246) = false := beq_eq_false_iff_ne.2 (by omega)
  have q247 : ((b : Int) == 247) = false := beq_eq_false_iff_ne.2 (by omega)
  have q244 : ((b : Int) == 244) = false := beq_eq_false_iff_ne.2 (by omega)
  have q245 : ((b : Int) == 245) = false := beq_eq_false_iff_ne.2 (by omega)
  have q249 : ((b : Int) == 249) = false := beq_eq_false_iff_ne.2 (by omega)
  have q250 : ((b : Int) == 250) = false := beq_eq_false_iff_ne.2 (by omega)
  have q251 : ((b : Int) == 251) = false := beq_eq_false_iff_ne.2 (by omega)
  have q95 : ((b : Int) == 95) = false := beq_eq_false_iff_ne.2 (by omega)
  have q127 : ((b : Int) == 127) = false := beq_eq_false_iff_ne.2 (by omega)
  have q159 : ((b : Int) == 159) = false := beq_eq_false_iff_ne.2 (by omega)
  have q191 : ((b : Int) == 191) = false := beq_eq_false_iff_ne.2 (by omega)
  have HC := Kp.mk (decLen_calls T pv fr bs ve vu vo vn O D S H gz gs hz hs hzs gd ph _ _ hD.1 k w b n r (by omega) hS hd ha)
  have HH := Kp.mk H
  have HS := Kp.mk hD
  have HN := Kp.mk hN
  have HX := Kp.mk (And.intro trivial (And.intro trivial (And.intro hks (And.intro hp (And.intro hls (And.intro hq hts))))))
  have HB := Kp.mk (And.intro hd (And.intro hk (And.intro hll ht)))
  clear H hz hs hzs hD hN hS hd hk hks hp hll hls hq ht hts ha
  go_enter Tryz.func154, Tryz.ntmps154
  go_wp2_with fail
  refine HC.out.mono ?_
  rintro e w1 ⟨rfl, h1, h2⟩
  have hnO : ∀ x, ¬ slD D gz gs x → ¬ slO O gz gs x := fun x hx h => hx (slO_D HH.out h)
  have hd1 : DcAt w1 gd gs ph (.slice (some ⟨gk, 0, none⟩) p 10) (.slice (some ⟨gl, 0, none⟩) q 10) := h2.keep HB.out.1 (hnO _ HS.out.1)
  have hk1 := h2.keep HB.out.2.1 (hnO _ HS.out.2.1)
  have hl1 := h2.keep HB.out.2.2.1 (hnO _ HS.out.2.2.1)
  have ht1 := h2.keep HB.out.2.2.2 (hnO _ HS.out.2.2.2)
  obtain ⟨v0, c0⟩ := blk_in ht1 0 (by have := HX.out; omega)
  have f0 := blk_frozen ht1 0
  have hset0 := blk_set ht1 0 (.int .u8 91)
  obtain ⟨v1, c1⟩ := blk_in hset0 1 (by have := HX.out; simp; omega)
  have f1 := blk_frozen hset0 1
  have hset1 := blk_set hset0 1 (.int .i64 n)
  have hxt : Ex (fun x => x = gt) w1 ((w1.setCell ⟨gt, 0, none⟩ (.int .u8 91)).setCell ⟨gt, 1, none⟩ (.int .i64 n)) := ((Ex.refl (fun x => x = gt) w1).setCell (p := ⟨gt, 0, none⟩) rfl _).setCell (p := ⟨gt, 1, none⟩) rfl _
  obtain ⟨W, hW⟩ : ∃ W, W = (w1.setCell ⟨gt, 0, none⟩ (.int .u8 91)).setCell ⟨gt, 1, none⟩ (.int .i64 n) := ⟨_, rfl⟩
  rw [← hW] at hset1 hxt
  obtain ⟨U0, hU0⟩ : ∃ W', W' = W := ⟨_, rfl⟩
  have hxU : Ex (fun x => x = gt) w1 U0 := by rw [hU0]; exact hxt
  have hd0 : DcAt U0 gd gs ph (.slice (some ⟨gk, 0, none⟩) p 10) (.slice (some ⟨gl, 0, none⟩) q 10) := hxU.keep hd1 (fun e => HN.out.1 e.symm)
  have hk0 := hxU.keep hk1 (fun e => HN.out.2.2.2.2.2.1 e.symm)
  have hl0 := hxU.keep hl1 HN.out.2.1
  have ht0 : U0.heap[gt]? = some (.cells ((tcs.setIfInBounds 0 (.int .u8 91)).setIfInBounds 1 (.int .i64 n)) 192 (0, 0)) := by rw [hU0]; exact hset1
  obtain ⟨U1, hU1⟩ : ∃ W', W' = U0.alloc (.cells #[.int .i64 n] 3) := ⟨_, rfl⟩
  obtain ⟨z, hz⟩ : ∃ z, z = U0.heap.size := ⟨_, rfl⟩
  have hal : Below U0.heap.size U0 U1 := by rw [hU1]; exact bel_alloc (Below.refl _ _) _
  have hcz : U1.cell? ⟨z, 0, none⟩ = some (.int .i64 (n : Int)) := by rw [hU1, hz]; exact blk_cell (blk_new (w := U0) (Below.refl _ _)) 0
  have hap := append_nn U1 gl q z n cl (blk_keep hl0 hal) HX.out.2.2.2.2.1 HX.out.2.2.2.2.2.1 hcz
  obtain ⟨U2, hU2⟩ : ∃ W', W' = U1.setCell ⟨gl, q, none⟩ (.int .i64 n) := ⟨_, rfl⟩
  rw [← hU2] at hap
  obtain ⟨U3, hU3⟩ : ∃ W', W' = U2.setCell ⟨gd, 10, none⟩ (.slice (some ⟨gl, 0, none⟩) (q + 1) 10) := ⟨_, rfl⟩
  have hd1' : DcAt U1 gd gs ph (.slice (some ⟨gk, 0, none⟩) p 10) (.slice (some ⟨gl, 0, none⟩) q 10) := blk_keep hd0 hal
  have hd2 : DcAt U2 gd gs ph (.slice (some ⟨gk, 0, none⟩) p 10) (.slice (some ⟨gl, 0, none⟩) q 10) := by rw [hU2]; exact blk_far (p := ⟨gl, q, none⟩) hd1' (by show gd ≠ gl; exact fun e => HN.out.2.2.2.1 e.symm) _
  have hd3 : DcAt U3 gd gs ph (.slice (some ⟨gk, 0, none⟩) p 10) (.slice (some ⟨gl, 0, none⟩) (q + 1) 10) := by rw [hU3]; exact blk_set hd2 10 _
  have hx02 : Ex (fun x => x = gl) U0 U2 := by rw [hU2]; exact (Ex.of_below (P := fun x => x = gl) hal).setCell (p := ⟨gl, q, none⟩) rfl _
  have hx03 : Ex (fun x => x = gl ∨ x = gd) U0 U3 := by rw [hU3]; exact (hx02.mono (fun x hx => .inl hx)).setCell (p := ⟨gd, 10, none⟩) (.inr rfl) _
  have hk3 := hx03.keep hk0 (fun h => h.elim (fun e => HN.out.2.2.2.2.1 e.symm) HN.out.2.2.1)
  have ht3 := hx03.keep ht0 (fun h => h.elim (fun e => HN.out.2.1 e.symm) HN.out.1)
  have hl3 : U3.heap[gl]? = some (.cells (cl.setIfInBounds q (.int .i64 n)) 3 (0, 0)) := by rw [hU3, hU2]; exact blk_far (p := ⟨gd, 10, none⟩) (blk_set (blk_keep hl0 hal) q _) (by show gl ≠ gd; exact HN.out.2.2.2.1) _
  have hx13 : Ex (fun x => x = gt ∨ x = gl ∨ x = gd) w1 U3 := (hxU.mono (fun x hx => .inl hx)).trans (hx03.mono (fun x hx => .inr hx))
  have hsl3 : ∃ k', r = bs.drop k' ∧ SlS T pv S gz gs k' U3 := by
    obtain ⟨k', hk', hs'⟩ := h1
    exact ⟨k', hk', hs'.frame HH.out (hx13.mono (fun x hx hd => by rcases hx with rfl | rfl | rfl; exact HS.out.2.2.2 hd; exact HS.out.2.2.1 hd; exact HS.out.1 hd))⟩
  have hxA : Ex (fun x => slO O gz gs x ∨ x = gt ∨ x = gd ∨ x = gk ∨ x = gl) w U3 := (h2.mono (fun x hx => .inl hx)).trans (hx13.mono (fun x hx => by rcases hx with h | h | h; exact .inr (.inl h); exact .inr (.inr (.inr (.inr h))); exact .inr (.inr (.inl h))))
  have HE := Kp.mk (And.intro hd3 (And.intro hk3 (And.intro hl3 (And.intro ht3 (And.intro hsl3 hxA)))))
  subst hU0
  have hc10 : U0.cell? ⟨gd, 10, none⟩ = some (.slice (some ⟨gl, 0, none⟩) q 10) := blk_cell hd0 10
  have hc10' : U2.cell? ⟨gd, 10, none⟩ = some (.slice (some ⟨gl, 0, none⟩) q 10) := blk_cell hd2 10
  have hf10 := blk_frozen hd2 10
  obtain ⟨vq, hcq⟩ := blk_in (blk_keep hl0 hal) q (by have := HX.out; omega)
  have hfq := blk_frozen (blk_keep hl0 hal) q
  rw [hU2, hU1] at hc10' hf10
  rw [hU1] at hcq hfq
  have HU1 := Kp.mk hU1
  have HU2 := Kp.mk hU2
  have HU3 := Kp.mk hU3
  have HWW := Kp.mk hW
  rw [hW] at hc10 hc10' hf10 hcq hfq
  have HF := Kp.mk (And.intro hc10 (And.intro hc10' (And.intro hf10 (And.intro hcq hfq))))
  clear h1 h2 hd1 hk1 hl1 ht1 hset0 hset1 hxt hxU hd0 hk0 hl0 ht0 hal hcz hap hd1' hd2 hd3 hx02 hx03 hk3 ht3 hl3 hx13 hsl3 hxA hU1 hU2 hU3 hz hW HC HB hnO hc10 hc10' hf10 hcq hfq
  have c10 := HF.out.1
  have c10' := HF.out.2.1
  have f10 := HF.out.2.2.1
  have cq := HF.out.2.2.2.1
  have fq := HF.out.2.2.2.2
  have hq9 := HX.out.2.2.2.2.2.1
  go_wp2_with fail
  rw [← HWW.out, ← HU1.out, ← HU2.out, ← HU3.out]
  refine (pushPhase_calls gd gs gk ph 4 p (.slice (some ⟨gl, 0, none⟩) (q + 1) 10) ck U3 HE.out.1 HE.out.2.1 HX.out.2.2.1 HX.out.2.2.2.1 HN.out.2.2.1).mono ?_
  rintro e w2 ⟨rfl, hd4, hk4, hx4⟩
  have HE2 := Kp.mk (And.intro hd4 (And.intro hk4 hx4))
  clear hd4 hk4 hx4
  go_wp2_with fail
  go_ret2
  obtain ⟨hd4, hk4, hx4⟩ := HE2.out
  obtain ⟨_, _, hl3, ht3, hsl3, hx3⟩ := HE.out
  obtain ⟨k', hk', hs'⟩ := hsl3
  obtain ⟨n1, n2, n3, n4, n5, n6, n7⟩ := HN.out
  have hfr : Ex (fun x => ¬ slD D gz gs x) U3 w2 := hx4.mono (fun x hx hd => hx.elim (fun e => HS.out.1 (e ▸ hd)) (fun e => HS.out.2.1 (e ▸ hd)))
  exact ⟨rfl, ⟨k', hk', hs'.frame HH.out hfr⟩, hd4, hk4, hx4.keep hl3 (fun h => h.elim n4 n5), hx4.keep ht3 (fun h => h.elim n1 n6), hx3.trans (hx4.mono (fun x hx => hx.elim (fun e => .inr (.inr (.inl e))) (fun e => .inr (.inr (.inr (.inl e))))))⟩

set_option maxHeartbeats 8000000 in
set_option maxRecDepth 100000 in
/-- A map's head. -/
theorem valMap_calls (T : TypeId) (pv : Value) (fr : FuncId) (bs : List UInt8) (ve vu vo vn : Value) (O D : Nat → Prop) (S : Nat → World → Prop) (H : Src T pv fr bs ve vu vo vn O D S) (gz gs : Nat) (hz : ¬ D gz) (hs : ¬ D gs) (hzs : gz ≠ gs) (gd gk gl gt ph p q : Nat) (ck cl tcs : Array Value) (k : Nat) (w : World) (b n : Nat) (r : List UInt8) (hl : 160 ≤ b) (hb : b < 192) (hD : ¬ slD D gz gs gd ∧ ¬ slD D gz gs gk ∧ ¬ slD D gz gs gl ∧ ¬ slD D gz gs gt) (hN : gt ≠ gd ∧ gl ≠ gt ∧ gk ≠ gd ∧ gl ≠ gd ∧ gl ≠ gk ∧ gt ≠ gk ∧ True) (hS : SlS T pv S gz gs k w) (hd : DcAt w gd gs ph (.slice (some ⟨gk, 0, none⟩) p 10) (.slice (some ⟨gl, 0, none⟩) q 10)) (hk : w.heap[gk]? = some (.cells ck 231 (0, 0))) (hks : ck.size = 10) (hp : p < 10) (hll : w.heap[gl]? = some (.cells cl 3 (0, 0))) (hls : cl.size = 10) (hq : q < 10) (ht : w.heap[gt]? = some (.cells tcs 192 (0, 0))) (hts : tcs.size = 10) (ha : cbArg (b % 32) (bs.drop k) = some (n, r)) :
    Calls Tryz.prog 154 #[.pointer (some ⟨gd, 0, none⟩), .int .u8 b, .pointer (some ⟨gt, 0, none⟩)] w fun e w' => e = .returned (.tuple #[.bool false, .nilIface]) ∧ (∃ k', r = bs.drop k' ∧ SlS T pv S gz gs k' w') ∧ DcAt w' gd gs 5 (.slice (some ⟨gk, 0, none⟩) (p + 1) 10) (.slice (some ⟨gl, 0, none⟩) (q + 1) 10) ∧ w'.heap[gk]? = some (.cells (ck.setIfInBounds p (.int .u8 ph)) 231 (0, 0)) ∧ w'.heap[gl]? = some (.cells (cl.setIfInBounds q (.int .i64 n)) 3 (0, 0)) ∧ w'.heap[gt]? = some (.cells ((tcs.setIfInBounds 0 (.int .u8 123)).setIfInBounds 1 (.int .i64 n)) 192 (0, 0)) ∧ Ex (fun x => slO O gz gs x ∨ x = gt ∨ x = gd ∨ x = gk ∨ x = gl) w w' := by
  have h24 := cbArg_24 ha
  have q246 : ((b : Int) == 246) = false := beq_eq_false_iff_ne.2 (by omega)
  have q247 : ((b : Int) == 247) = false := beq_eq_false_iff_ne.2 (by omega)
  have q244 : ((b : Int) == 244) = false := beq_eq_false_iff_ne.2 (by omega)
  have q245 : ((b : Int) == 245) = false := beq_eq_false_iff_ne.2 (by omega)
  have q249 : ((b : Int) == 249) = false := beq_eq_false_iff_ne.2 (by omega)
  have q250 : ((b : Int) == 250) = false := beq_eq_false_iff_ne.2 (by omega)
  have q251 : ((b : Int) == 251) = false := beq_eq_false_iff_ne.2 (by omega)
  have q95 : ((b : Int) == 95) = false := beq_eq_false_iff_ne.2 (by omega)
  have q127 : ((b : Int) == 127) = false := beq_eq_false_iff_ne.2 (by omega)
  have q159 : ((b : Int) == 159) = false := beq_eq_false_iff_ne.2 (by omega)
  have q191 : ((b : Int) == 191) = false := beq_eq_false_iff_ne.2 (by omega)
  have HC := Kp.mk (decLen_calls T pv fr bs ve vu vo vn O D S H gz gs hz hs hzs gd ph _ _ hD.1 k w b n r (by omega) hS hd ha)
  have HH := Kp.mk H
  have HS := Kp.mk hD
  have HN := Kp.mk hN
  have HX := Kp.mk (And.intro trivial (And.intro trivial (And.intro hks (And.intro hp (And.intro hls (And.intro hq hts))))))
  have HB := Kp.mk (And.intro hd (And.intro hk (And.intro hll ht)))
  clear H hz hs hzs hD hN hS hd hk hks hp hll hls hq ht hts ha
  go_enter Tryz.func154, Tryz.ntmps154
  go_wp2_with fail
  refine HC.out.mono ?_
  rintro e w1 ⟨rfl, h1, h2⟩
  have hnO : ∀ x, ¬ slD D gz gs x → ¬ slO O gz gs x := fun x hx h => hx (slO_D HH.out h)
  have hd1 : DcAt w1 gd gs ph (.slice (some ⟨gk, 0, none⟩) p 10) (.slice (some ⟨gl, 0, none⟩) q 10) := h2.keep HB.out.1 (hnO _ HS.out.1)
  have hk1 := h2.keep HB.out.2.1 (hnO _ HS.out.2.1)
  have hl1 := h2.keep HB.out.2.2.1 (hnO _ HS.out.2.2.1)
  have ht1 := h2.keep HB.out.2.2.2 (hnO _ HS.out.2.2.2)
  obtain ⟨v0, c0⟩ := blk_in ht1 0 (by have := HX.out; omega)
  have f0 := blk_frozen ht1 0
  have hset0 := blk_set ht1 0 (.int .u8 123)
  obtain ⟨v1, c1⟩ := blk_in hset0 1 (by have := HX.out; simp; omega)
  have f1 := blk_frozen hset0 1
  have hset1 := blk_set hset0 1 (.int .i64 n)
  have hxt : Ex (fun x => x = gt) w1 ((w1.setCell ⟨gt, 0, none⟩ (.int .u8 123)).setCell ⟨gt, 1, none⟩ (.int .i64 n)) := ((Ex.refl (fun x => x = gt) w1).setCell (p := ⟨gt, 0, none⟩) rfl _).setCell (p := ⟨gt, 1, none⟩) rfl _
  obtain ⟨W, hW⟩ : ∃ W, W = (w1.setCell ⟨gt, 0, none⟩ (.int .u8 123)).setCell ⟨gt, 1, none⟩ (.int .i64 n) := ⟨_, rfl⟩
  rw [← hW] at hset1 hxt
  obtain ⟨U0, hU0⟩ : ∃ W', W' = W := ⟨_, rfl⟩
  have hxU : Ex (fun x => x = gt) w1 U0 := by rw [hU0]; exact hxt
  have hd0 : DcAt U0 gd gs ph (.slice (some ⟨gk, 0, none⟩) p 10) (.slice (some ⟨gl, 0, none⟩) q 10) := hxU.keep hd1 (fun e => HN.out.1 e.symm)
  have hk0 := hxU.keep hk1 (fun e => HN.out.2.2.2.2.2.1 e.symm)
  have hl0 := hxU.keep hl1 HN.out.2.1
  have ht0 : U0.heap[gt]? = some (.cells ((tcs.setIfInBounds 0 (.int .u8 123)).setIfInBounds 1 (.int .i64 n)) 192 (0, 0)) := by rw [hU0]; exact hset1
  obtain ⟨U1, hU1⟩ : ∃ W', W' = U0.alloc (.cells #[.int .i64 n] 3) := ⟨_, rfl⟩
  obtain ⟨z, hz⟩ : ∃ z, z = U0.heap.size := ⟨_, rfl⟩
  have hal : Below U0.heap.size U0 U1 := by rw [hU1]; exact bel_alloc (Below.refl _ _) _
  have hcz : U1.cell? ⟨z, 0, none⟩ = some (.int .i64 (n : Int)) := by rw [hU1, hz]; exact blk_cell (blk_new (w := U0) (Below.refl _ _)) 0
  have hap := append_nn U1 gl q z n cl (blk_keep hl0 hal) HX.out.2.2.2.2.1 HX.out.2.2.2.2.2.1 hcz
  obtain ⟨U2, hU2⟩ : ∃ W', W' = U1.setCell ⟨gl, q, none⟩ (.int .i64 n) := ⟨_, rfl⟩
  rw [← hU2] at hap
  obtain ⟨U3, hU3⟩ : ∃ W', W' = U2.setCell ⟨gd, 10, none⟩ (.slice (some ⟨gl, 0, none⟩) (q + 1) 10) := ⟨_, rfl⟩
  have hd1' : DcAt U1 gd gs ph (.slice (some ⟨gk, 0, none⟩) p 10) (.slice (some ⟨gl, 0, none⟩) q 10) := blk_keep hd0 hal
  have hd2 : DcAt U2 gd gs ph (.slice (some ⟨gk, 0, none⟩) p 10) (.slice (some ⟨gl, 0, none⟩) q 10) := by rw [hU2]; exact blk_far (p := ⟨gl, q, none⟩) hd1' (by show gd ≠ gl; exact fun e => HN.out.2.2.2.1 e.symm) _
  have hd3 : DcAt U3 gd gs ph (.slice (some ⟨gk, 0, none⟩) p 10) (.slice (some ⟨gl, 0, none⟩) (q + 1) 10) := by rw [hU3]; exact blk_set hd2 10 _
  have hx02 : Ex (fun x => x = gl) U0 U2 := by rw [hU2]; exact (Ex.of_below (P := fun x => x = gl) hal).setCell (p := ⟨gl, q, none⟩) rfl _
  have hx03 : Ex (fun x => x = gl ∨ x = gd) U0 U3 := by rw [hU3]; exact (hx02.mono (fun x hx => .inl hx)).setCell (p := ⟨gd, 10, none⟩) (.inr rfl) _
  have hk3 := hx03.keep hk0 (fun h => h.elim (fun e => HN.out.2.2.2.2.1 e.symm) HN.out.2.2.1)
  have ht3 := hx03.keep ht0 (fun h => h.elim (fun e => HN.out.2.1 e.symm) HN.out.1)
  have hl3 : U3.heap[gl]? = some (.cells (cl.setIfInBounds q (.int .i64 n)) 3 (0, 0)) := by rw [hU3, hU2]; exact blk_far (p := ⟨gd, 10, none⟩) (blk_set (blk_keep hl0 hal) q _) (by show gl ≠ gd; exact HN.out.2.2.2.1) _
  have hx13 : Ex (fun x => x = gt ∨ x = gl ∨ x = gd) w1 U3 := (hxU.mono (fun x hx => .inl hx)).trans (hx03.mono (fun x hx => .inr hx))
  have hsl3 : ∃ k', r = bs.drop k' ∧ SlS T pv S gz gs k' U3 := by
    obtain ⟨k', hk', hs'⟩ := h1
    exact ⟨k', hk', hs'.frame HH.out (hx13.mono (fun x hx hd => by rcases hx with rfl | rfl | rfl; exact HS.out.2.2.2 hd; exact HS.out.2.2.1 hd; exact HS.out.1 hd))⟩
  have hxA : Ex (fun x => slO O gz gs x ∨ x = gt ∨ x = gd ∨ x = gk ∨ x = gl) w U3 := (h2.mono (fun x hx => .inl hx)).trans (hx13.mono (fun x hx => by rcases hx with h | h | h; exact .inr (.inl h); exact .inr (.inr (.inr (.inr h))); exact .inr (.inr (.inl h))))
  have HE := Kp.mk (And.intro hd3 (And.intro hk3 (And.intro hl3 (And.intro ht3 (And.intro hsl3 hxA)))))
  subst hU0
  have hc10 : U0.cell? ⟨gd, 10, none⟩ = some (.slice (some ⟨gl, 0, none⟩) q 10) := blk_cell hd0 10
  have hc10' : U2.cell? ⟨gd, 10, none⟩ = some (.slice (some ⟨gl, 0, none⟩) q 10) := blk_cell hd2 10
  have hf10 := blk_frozen hd2 10
  obtain ⟨vq, hcq⟩ := blk_in (blk_keep hl0 hal) q (by have := HX.out; omega)
  have hfq := blk_frozen (blk_keep hl0 hal) q
  rw [hU2, hU1] at hc10' hf10
  rw [hU1] at hcq hfq
  have HU1 := Kp.mk hU1
  have HU2 := Kp.mk hU2
  have HU3 := Kp.mk hU3
  have HWW := Kp.mk hW
  rw [hW] at hc10 hc10' hf10 hcq hfq
  have HF := Kp.mk (And.intro hc10 (And.intro hc10' (And.intro hf10 (And.intro hcq hfq))))
  clear h1 h2 hd1 hk1 hl1 ht1 hset0 hset1 hxt hxU hd0 hk0 hl0 ht0 hal hcz hap hd1' hd2 hd3 hx02 hx03 hk3 ht3 hl3 hx13 hsl3 hxA hU1 hU2 hU3 hz hW HC HB hnO hc10 hc10' hf10 hcq hfq
  have c10 := HF.out.1
  have c10' := HF.out.2.1
  have f10 := HF.out.2.2.1
  have cq := HF.out.2.2.2.1
  have fq := HF.out.2.2.2.2
  have hq9 := HX.out.2.2.2.2.2.1
  go_wp2_with fail
  rw [← HWW.out, ← HU1.out, ← HU2.out, ← HU3.out]
  refine (pushPhase_calls gd gs gk ph 5 p (.slice (some ⟨gl, 0, none⟩) (q + 1) 10) ck U3 HE.out.1 HE.out.2.1 HX.out.2.2.1 HX.out.2.2.2.1 HN.out.2.2.1).mono ?_
  rintro e w2 ⟨rfl, hd4, hk4, hx4⟩
  have HE2 := Kp.mk (And.intro hd4 (And.intro hk4 hx4))
  clear hd4 hk4 hx4
  go_wp2_with fail
  go_ret2
  obtain ⟨hd4, hk4, hx4⟩ := HE2.out
  obtain ⟨_, _, hl3, ht3, hsl3, hx3⟩ := HE.out
  obtain ⟨k', hk', hs'⟩ := hsl3
  obtain ⟨n1, n2, n3, n4, n5, n6, n7⟩ := HN.out
  have hfr : Ex (fun x => ¬ slD D gz gs x) U3 w2 := hx4.mono (fun x hx hd => hx.elim (fun e => HS.out.1 (e ▸ hd)) (fun e => HS.out.2.1 (e ▸ hd)))
  exact ⟨rfl, ⟨k', hk', hs'.frame HH.out hfr⟩, hd4, hk4, hx4.keep hl3 (fun h => h.elim n4 n5), hx4.keep ht3 (fun h => h.elim n1 n6), hx3.trans (hx4.mono (fun x hx => hx.elim (fun e => .inr (.inr (.inl e))) (fun e => .inr (.inr (.inr (.inl e))))))⟩

end Go.Proofs.YtkcpgcaccgahaaaGreatDoor
namespace Go.Proofs.YtkcpgcaccgahaaaGreatDoor
open Go.RowKit

set_option maxHeartbeats 8000000 in
set_option maxRecDepth 100000 in
/-- A byte string with a tag. -/
theorem valTag_calls (T : TypeId) (pv : Value) (fr : FuncId) (bs : List UInt8) (ve vu vo vn : Value) (O D : Nat → Prop) (S : Nat → World → Prop) (H : Src T pv fr bs ve vu vo vn O D S) (gz gs : Nat) (hz : ¬ D gz) (hs : ¬ D gs) (hzs : gz ≠ gs) (gd ph : Nat) (A B : Value) (hgd : ¬ slD D gz gs gd) (k : Nat) (w : World) (b x n : Nat) (b' : UInt8) (r1 r : List UInt8) (hl : 192 ≤ b) (hb : b < 224) (hl' : 64 ≤ b'.toNat) (hb' : b'.toNat < 96) (hS : SlS T pv S gz gs k w) (hd : DcAt w gd gs ph A B) (gt : Nat) (tcs : Array Value) (hgt : ¬ slD D gz gs gt) (hdt : gt ≠ gd) (ht : w.heap[gt]? = some (.cells tcs 192 (0, 0))) (hts : tcs.size = 10) (ht8 : tcs[8]? = some (.bool false)) (ha : cbArg (b % 32) (bs.drop k) = some (x, b' :: r1)) (ha' : cbArg (b'.toNat % 32) r1 = some (n, r)) (hn0 : 0 < n) (hnr : n ≤ r.length) :
    Calls Tryz.prog 154 #[.pointer (some ⟨gd, 0, none⟩), .int .u8 b, .pointer (some ⟨gt, 0, none⟩)] w fun e w' => (∃ dn, e = .returned (.tuple #[.bool dn, .nilIface])) ∧ (∃ k', r.drop n = bs.drop k' ∧ SlS T pv S gz gs k' w') ∧ (∃ gb cap, w.heap.size ≤ gb ∧ RdB w' (some ⟨gb, 0, none⟩) n cap (r.take n) ∧ w'.heap[gt]? = some (.cells ((((tcs.setIfInBounds 8 (.bool true)).setIfInBounds 9 (.int .i64 x)).setIfInBounds 0 (.int .u8 120)).setIfInBounds 3 (.slice (some ⟨gb, 0, none⟩) n cap)) 192 (0, 0))) ∧ Ex (fun x => slO O gz gs x ∨ x = gt) w w' := by
  have h24 := cbArg_24 ha
  have q246 : ((b : Int) == 246) = false := beq_eq_false_iff_ne.2 (by omega)
  have q247 : ((b : Int) == 247) = false := beq_eq_false_iff_ne.2 (by omega)
  have q244 : ((b : Int) == 244) = false := beq_eq_false_iff_ne.2 (by omega)
  have q245 : ((b : Int) == 245) = false := beq_eq_false_iff_ne.2 (by omega)
  have q249 : ((b : Int) == 249) = false := beq_eq_false_iff_ne.2 (by omega)
  have q250 : ((b : Int) == 250) = false := beq_eq_false_iff_ne.2 (by omega)
  have q251 : ((b : Int) == 251) = false := beq_eq_false_iff_ne.2 (by omega)
  have q95 : ((b : Int) == 95) = false := beq_eq_false_iff_ne.2 (by omega)
  have q127 : ((b : Int) == 127) = false := beq_eq_false_iff_ne.2 (by omega)
  have q159 : ((b : Int) == 159) = false := beq_eq_false_iff_ne.2 (by omega)
  have q191 : ((b : Int) == 191) = false := beq_eq_false_iff_ne.2 (by omega)
  have c8 : w.cell? ⟨gt, 8, none⟩ = some (.bool false) := (blk_cell ht 8).trans ht8
  have f8 := blk_frozen ht 8
  have hset := blk_set ht 8 (.bool true)
  have hx0 : Ex (fun x => x = gt) w (w.setCell ⟨gt, 8, none⟩ (.bool true)) := (Ex.refl (fun x => x = gt) _).setCell (p := ⟨gt, 8, none⟩) rfl _
  have hS0 := hS.frame H (hx0.mono (fun x hx hd => hgt (hx ▸ hd)))
  have hd0 : DcAt (w.setCell ⟨gt, 8, none⟩ (.bool true)) gd gs ph A B := blk_far (p := ⟨gt, 8, none⟩) hd (by show gd ≠ gt; exact hdt.symm) _
  have HC := Kp.mk (decLen_calls T pv fr bs ve vu vo vn O D S H gz gs hz hs hzs gd ph A B hgd k _ b x _ (by omega) hS0 hd0 ha)
  have HC2 := Kp.mk (fun k w y h1 h2 => readn1_calls T pv fr bs ve vu vo vn O D S H gz gs hz hs hzs k w y h1 h2)
  have HC3 := Kp.mk (fun k w tcs hS hd ht hts ha => valByt_calls T pv fr bs ve vu vo vn O D S H gz gs hz hs hzs gd ph A B hgd k w b'.toNat n r hl' hb' hS hd gt tcs hgt hdt ht hts ha hn0 hnr)
  have hm : ∀ W, (method 453 262 (.pointer (some ⟨gs, 0, none⟩)) "Readn1").run Tryz.prog W = .ok (256, .pointer (some ⟨gs, 0, none⟩)) W := fun _ => by kernel_rfl
  have HH := Kp.mk H
  have HX := Kp.mk (And.intro hset (And.intro hx0 (And.intro hgt (And.intro hts (And.intro hdt (And.intro ha' hgd))))))
  have HD0 := Kp.mk hd0
  clear H hz hs hzs hgd hS hd hgt hdt ht hts ha ha' hset hx0 hS0 hd0 hnr hl' hb' ht8
  go_enter Tryz.func154, Tryz.ntmps154
  go_wp2_with fail
  refine HC.out.mono ?_
  rintro e w1 ⟨rfl, ⟨k1, hk1, h1⟩, h2⟩
  have hnO : ∀ x, ¬ slD D gz gs x → ¬ slO O gz gs x := fun x hx h => hx (slO_D HH.out h)
  have ht1 := h2.keep HX.out.1 (hnO _ HX.out.2.2.1)
  have hd1 : DcAt w1 gd gs ph A B := h2.keep HD0.out (hnO _ HX.out.2.2.2.2.2.2)
  obtain ⟨v9, c9⟩ := blk_in ht1 9 (by have := HX.out.2.2.2.1; simp; omega)
  have f9 := blk_frozen ht1 9
  have hset9 := blk_set ht1 9 (.int .i64 x)
  have hx9 : Ex (fun x => x = gt) w1 (w1.setCell ⟨gt, 9, none⟩ (.int .i64 x)) := (Ex.refl (fun x => x = gt) _).setCell (p := ⟨gt, 9, none⟩) rfl _
  have hS9 := h1.frame HH.out (hx9.mono (fun x hx hd => HX.out.2.2.1 (hx ▸ hd)))
  have hd9 : DcAt (w1.setCell ⟨gt, 9, none⟩ (.int .i64 x)) gd gs ph A B := blk_far (p := ⟨gt, 9, none⟩) hd1 (by show gd ≠ gt; exact HX.out.2.2.2.2.1.symm) _
  have hy : bs[k1]? = some b' := by have := congrArg (fun l => l[0]?) hk1; simpa [List.getElem?_drop] using this.symm
  have hr1 : r1 = bs.drop (k1 + 1) := by have := congrArg (fun l => l.drop 1) hk1; simpa [List.drop_drop] using this
  have HR := Kp.mk (HC2.out k1 _ b' hS9 hy)
  have c7 : (w1.setCell ⟨gt, 9, none⟩ (.int .i64 x)).cell? ⟨gd, 7, none⟩ = some (.iface 262 (.pointer (some ⟨gs, 0, none⟩))) := blk_cell hd9 7
  have HK := Kp.mk (And.intro h2 (And.intro hset9 (And.intro hx9 (And.intro hd9 hr1))))
  clear h1 h2 ht1 hd1 hset9 hx9 hS9 hd9 hy hr1 hk1 HC HC2 c8 f8 HD0
  go_wp2_with fail
  refine HR.out.mono ?_
  rintro e w2 ⟨rfl, h1, h2⟩
  have ht2 := h2.keep HK.out.2.1 (hnO _ HX.out.2.2.1)
  have hd2 : DcAt w2 gd gs ph A B := h2.keep HK.out.2.2.2.1 (hnO _ HX.out.2.2.2.2.2.2)
  have ha2 := HX.out.2.2.2.2.2.1
  rw [HK.out.2.2.2.2] at ha2
  have HV := Kp.mk (HC3.out (k1 + 1) w2 _ h1 hd2 ht2 (by have := HX.out.2.2.2.1; simp; omega) ha2)
  have HE := Kp.mk h2
  clear h1 h2 ht2 hd2 ha2 HR c7 c9 f9 hnO HC3
  go_wp2_with fail
  refine HV.out.mono ?_
  rintro e w3 ⟨⟨dn, rfl⟩, h1, ⟨gb, cap, hgb, hrd, ht3⟩, hx3⟩
  have HF := Kp.mk (And.intro h1 (And.intro hgb (And.intro hrd (And.intro ht3 hx3))))
  clear h1 hgb hrd ht3 hx3 HV
  go_wp2_with fail
  go_ret2
  obtain ⟨h1, hgb, hrd, ht3, hx3⟩ := HF.out
  have hxa : Ex (fun x => slO O gz gs x ∨ x = gt) w w2 := (((HX.out.2.1.mono (fun x hx => .inr hx)).trans (HK.out.1.mono (fun x hx => .inl hx))).trans (HK.out.2.2.1.mono (fun x hx => .inr hx))).trans (HE.out.mono (fun x hx => .inl hx))
  exact ⟨⟨dn, rfl⟩, h1, ⟨gb, cap, Nat.le_trans hxa.size hgb, hrd, ht3⟩, hxa.trans hx3⟩

end Go.Proofs.YtkcpgcaccgahaaaGreatDoor
