/- The walk of io.SectionReader's Read over a bytes.Reader, and it as a reader by its interface. -/
import Derived.Test.YtkcpgcaccgahaaaGreatDoorOffA
import Derived.Test.YtkcpgcaccgahaaaGreatDoorLdG
import Derived.Test.YtkcpgcaccgahaaaGreatDoorGrowB
namespace Go.Proofs.YtkcpgcaccgahaaaGreatDoor
open Go.RowKit

def secCs (g base off lim z : Nat) : Array Value := #[.iface 104 (.pointer (some ⟨g, 0, none⟩)), .int .i64 base, .int .i64 off, .int .i64 lim, .int .i64 z]
/-- The bytes of a section. -/
def secBs (base lim : Nat) (bs : List UInt8) : List UInt8 := (bs.drop base).take (lim - base)
/-- A section from base to lim, k bytes on. -/
structure SeS (w0 : World) (g ga n c base lim z gs : Nat) (bs : List UInt8) (k : Nat) (w : World) : Prop where
  old : Below w0.heap.size w0 w
  rdr : ∃ i q, RdrAt w g ga n c i q
  rd : RdB w (some ⟨ga, 0, none⟩) n c bs
  blk : w.heap[gs]? = some (.cells (secCs g base (base + k) lim z) 153 (0, 0))
  len : k ≤ (secBs base lim bs).length
def seD (w0 : World) (g ga gs : Nat) (x : Nat) : Prop := x < w0.heap.size ∨ x = g ∨ x = ga ∨ x = gs
theorem SeS.lt {w0 : World} {g ga n c base lim z gs : Nat} {bs : List UInt8} {k : Nat} {w : World} (h : SeS w0 g ga n c base lim z gs bs k w) (hag : ga < g) : ∀ x, seD w0 g ga gs x → x < w.heap.size := by
  obtain ⟨i, q, hq⟩ := h.rdr
  have h1 := (Array.getElem?_eq_some_iff.1 hq).1
  have h3 := (Array.getElem?_eq_some_iff.1 h.blk).1
  have h2 := h.old.size
  rintro x (hx | rfl | rfl | rfl) <;> omega
theorem SeS.frame {w0 : World} {g ga n c base lim z gs : Nat} {bs : List UInt8} {k : Nat} {w w' : World} (h : SeS w0 g ga n c base lim z gs bs k w) (he : Ex (fun x => ¬ seD w0 g ga gs x) w w') : SeS w0 g ga n c base lim z gs bs k w' := by
  obtain ⟨i, q, hq⟩ := h.rdr
  exact ⟨h.old.trans (he.toBelow (fun x hx hn => hn (.inl hx)) h.old.size), ⟨i, q, he.keep hq (fun hn => hn (.inr (.inl rfl)))⟩, h.rd.ex he (fun hn => hn (.inr (.inr (.inl rfl)))), he.keep h.blk (fun hn => hn (.inr (.inr (.inr rfl)))), h.len⟩

def seA (gs off lim : Nat) (dd : Bool) (j : Nat) (v : Value) (_ : World) : Prop :=
  match j with
  | 0 => v = .pointer (some ⟨gs, 0, none⟩)
  | 1 => v = .pointer (some ⟨gs, 0, none⟩)
  | 2 => v = .pointer (some ⟨gs, 2, none⟩)
  | 3 => v = .int .i64 off
  | 4 => v = .pointer (some ⟨gs, 0, none⟩)
  | 5 => v = .pointer (some ⟨gs, 0, none⟩)
  | 6 => v = .pointer (some ⟨gs, 3, none⟩)
  | 7 => v = .int .i64 lim
  | 8 => v = .bool dd
  | _ => True
def seB (ve : Value) (j : Nat) (v : Value) (_ : World) : Prop :=
  match j with
  | 0 => v = ve
  | 1 => v = .int .i64 0
  | 2 => v = ve
  | _ => True
def seC (gs off lim q : Nat) (j : Nat) (v : Value) (_ : World) : Prop :=
  match j with
  | 0 => v = .pointer (some ⟨gs, 0, none⟩)
  | 1 => v = .pointer (some ⟨gs, 0, none⟩)
  | 2 => v = .pointer (some ⟨gs, 3, none⟩)
  | 3 => v = .int .i64 lim
  | 4 => v = .pointer (some ⟨gs, 0, none⟩)
  | 5 => v = .pointer (some ⟨gs, 0, none⟩)
  | 6 => v = .pointer (some ⟨gs, 2, none⟩)
  | 7 => v = .int .i64 off
  | 8 => v = .int .i64 q
  | 9 => v = .int .i64 q
  | _ => True

set_option maxHeartbeats 4000000 in
set_option maxRecDepth 100000 in
/-- Read at the section's end. -/
theorem secEnd_calls (w0 : World) (g ga n c base lim z gs : Nat) (bs : List UInt8) (ve vu vo vn : Value) (he : RdErrs ve vu vo vn w0) (A : Option Addr) (m cm k : Nat) (w : World) (hS : SeS w0 g ga n c base lim z gs bs k w) (hk : lim ≤ base + k) :
    Calls Tryz.prog 228 #[.pointer (some ⟨gs, 0, none⟩), .slice A m cm] w fun e w' => e = .returned (.tuple #[.int .i64 0, ve]) ∧ Below w.heap.size w w' := by
  have hdr : Below w.heap.size w w.drew := bel_drew (Below.refl _ _)
  obtain ⟨hold, _, _, hb, _⟩ := hS.frame (Ex.of_below hdr)
  obtain ⟨p, hp⟩ : ∃ p, p = base + k := ⟨_, rfl⟩
  rw [← hp] at hb
  have c2 : w.drew.cell? ⟨gs, 2, none⟩ = some (.int .i64 p) := blk_cell hb 2
  have c3 : w.drew.cell? ⟨gs, 3, none⟩ = some (.int .i64 lim) := blk_cell hb 3
  have hE := (he.below hold).eof
  have q1 : decide ((lim : Int) ≤ (p : Int)) = true := decide_eq_true (by omega)
  have q2 : (lim : Int) ≤ (p : Int) := by omega
  have hE2 : w.drew.drew.cell? ⟨0, 0, none⟩ = some ve := hE
  have HB := Kp.mk hdr
  clear hS he hk hold hb hdr hp
  go_enter Tryz.func228, Tryz.ntmps228
  go_wp2_with fail
  refine wp_region_growR (fun u u' => u = u') (fun _ => rfl) (fun _ _ _ h k => h.trans k) (by kernel_rfl) 9 (by decide) (apart_of (by kernel_rfl)) (by kernel_rfl) (seA gs p lim true) (fun _ _ _ _ => True) (fun _ _ _ _ h _ => by unfold seA at *; exact h) ?_ ?_
  · intro j hj ob ho vs w2 hb hpre
    subst hb
    rcases j with _ | _ | _ | _ | _ | _ | _ | _ | _ | j
    · obtain rfl := Option.some.inj ho
      simp only [canon, List.range, List.range.loop, List.foldl]
      go_simp
      all_goals first | rfl | exact ⟨rfl, rfl⟩ | trivial
    · have e0 : vs 0 = _ := hpre 0 (by decide) (by obtain rfl := Option.some.inj ho; rfl)
      obtain rfl := Option.some.inj ho
      simp only [canon, List.range, List.range.loop, List.foldl]
      go_simp
      all_goals first | rfl | exact ⟨rfl, rfl⟩ | trivial
    · have e1 : vs 1 = _ := hpre 1 (by decide) (by obtain rfl := Option.some.inj ho; rfl)
      obtain rfl := Option.some.inj ho
      simp only [canon, List.range, List.range.loop, List.foldl]
      go_simp
      all_goals first | rfl | exact ⟨rfl, rfl⟩ | trivial
    · have e2 : vs 2 = _ := hpre 2 (by decide) (by obtain rfl := Option.some.inj ho; rfl)
      obtain rfl := Option.some.inj ho
      simp only [canon, List.range, List.range.loop, List.foldl]
      go_simp
      all_goals first | rfl | exact ⟨rfl, rfl⟩ | trivial
    · obtain rfl := Option.some.inj ho
      simp only [canon, List.range, List.range.loop, List.foldl]
      go_simp
      all_goals first | rfl | exact ⟨rfl, rfl⟩ | trivial
    · have e4 : vs 4 = _ := hpre 4 (by decide) (by obtain rfl := Option.some.inj ho; rfl)
      obtain rfl := Option.some.inj ho
      simp only [canon, List.range, List.range.loop, List.foldl]
      go_simp
      all_goals first | rfl | exact ⟨rfl, rfl⟩ | trivial
    · have e5 : vs 5 = _ := hpre 5 (by decide) (by obtain rfl := Option.some.inj ho; rfl)
      obtain rfl := Option.some.inj ho
      simp only [canon, List.range, List.range.loop, List.foldl]
      go_simp
      all_goals first | rfl | exact ⟨rfl, rfl⟩ | trivial
    · have e6 : vs 6 = _ := hpre 6 (by decide) (by obtain rfl := Option.some.inj ho; rfl)
      obtain rfl := Option.some.inj ho
      simp only [canon, List.range, List.range.loop, List.foldl]
      go_simp
      all_goals first | rfl | exact ⟨rfl, rfl⟩ | trivial
    · have e3 : vs 3 = _ := hpre 3 (by decide) (by obtain rfl := Option.some.inj ho; rfl)
      have e7 : vs 7 = _ := hpre 7 (by decide) (by obtain rfl := Option.some.inj ho; rfl)
      obtain rfl := Option.some.inj ho
      simp only [canon, List.range, List.range.loop, List.foldl]
      go_simp
      all_goals first | rfl | exact ⟨rfl, rfl⟩ | trivial
    · omega
  · intro vs w2 hb hr _
    subst hb
    have e0 : vs 0 = _ := hr 0 (by omega)
    have e1 : vs 1 = _ := hr 1 (by omega)
    have e2 : vs 2 = _ := hr 2 (by omega)
    have e3 : vs 3 = _ := hr 3 (by omega)
    have e4 : vs 4 = _ := hr 4 (by omega)
    have e5 : vs 5 = _ := hr 5 (by omega)
    have e6 : vs 6 = _ := hr 6 (by omega)
    have e7 : vs 7 = _ := hr 7 (by omega)
    have e8 : vs 8 = _ := hr 8 (by omega)
    simp only [canon, List.range, List.range.loop, List.foldl]
    refine wpAny_none (by kernel_rfl) ?_ _
    rw [e0, e1, e2, e3, e4, e5, e6, e7, e8]
    go_simp
    go_wp2_with fail
    refine wp_region_growR (fun u u' => u = u') (fun _ => rfl) (fun _ _ _ h k => h.trans k) (by kernel_rfl) 3 (by decide) (apart_of (by kernel_rfl)) (by kernel_rfl) (seB ve) (fun _ _ _ _ => True) (fun _ _ _ _ h _ => by unfold seB at *; exact h) ?_ ?_
    · intro j hj ob ho vs w2 hb hpre
      subst hb
      rcases j with _ | _ | _ | j
      · obtain rfl := Option.some.inj ho
        simp only [canon, List.range, List.range.loop, List.foldl]
        go_simp
        all_goals first | rfl | exact ⟨rfl, rfl⟩ | trivial
      · obtain rfl := Option.some.inj ho
        simp only [canon, List.range, List.range.loop, List.foldl]
        go_simp
        all_goals first | rfl | exact ⟨rfl, rfl⟩ | trivial
      · have e0 : vs 0 = _ := hpre 0 (by decide) (by obtain rfl := Option.some.inj ho; rfl)
        obtain rfl := Option.some.inj ho
        simp only [canon, List.range, List.range.loop, List.foldl]
        go_simp
        all_goals first | rfl | exact ⟨rfl, rfl⟩ | trivial
      · omega
    · intro vs w2 hb hr _
      subst hb
      have e0 : vs 0 = _ := hr 0 (by omega)
      have e1 : vs 1 = _ := hr 1 (by omega)
      have e2 : vs 2 = _ := hr 2 (by omega)
      simp only [canon, List.range, List.range.loop, List.foldl]
      refine wpAny_none (by kernel_rfl) ?_ _
      rw [e0, e2]
      go_simp
      go_wp2_with fail
      go_ret2
      exact ⟨rfl, bel_then HB.out (bel_drew (Below.refl _ _))⟩
def seR (g gs gd o m cm : Nat) (off : Int) (j : Nat) (v : Value) (_ : World) : Prop :=
  match j with
  | 0 => v = .pointer (some ⟨gs, 0, none⟩)
  | 1 => v = .pointer (some ⟨gs, 0, none⟩)
  | 2 => v = .pointer (some ⟨gs, 0, none⟩)
  | 3 => v = .iface 104 (.pointer (some ⟨g, 0, none⟩))
  | 4 => v = .slice (some ⟨gd, o, none⟩) m cm
  | 5 => v = .pointer (some ⟨gs, 0, none⟩)
  | 6 => v = .pointer (some ⟨gs, 0, none⟩)
  | 7 => v = .pointer (some ⟨gs, 2, none⟩)
  | 8 => v = .int .i64 off
  | 10 => v = .iface 104 (.pointer (some ⟨g, 0, none⟩))
  | _ => True
def seR' (j0 : Nat) (v0 : Value) (j : Nat) (v : Value) (_ : World) : Prop :=
  match j with
  | 11 => v = .tuple #[.int .i64 j0, v0]
  | 12 => v = .tuple #[.int .i64 j0, v0]
  | 13 => v = .int .i64 j0
  | 14 => v = v0
  | 15 => v = .int .i64 j0
  | 16 => v = v0
  | _ => True


set_option maxHeartbeats 4000000 in
set_option maxRecDepth 100000 in
theorem secRead_calls (w0 : World) (g ga n c base lim z gs : Nat) (bs : List UInt8) (ve vu vo vn : Value) (he : RdErrs ve vu vo vn w0) (_hg : w0.heap.size ≤ g) (hgs : w0.heap.size ≤ gs) (hag : ga < g) (hgg : g < gs) (hn : n ≤ 4611686018427387904) (k : Nat) (w : World) (gd : Nat) (t : TypeId) (cs : Array Value) (o m cm : Nat) (hS : SeS w0 g ga n c base lim z gs bs k w) (hk : ¬ lim ≤ base + k) (hl : lim ≤ 9223372036854775807) (hD : ¬ seD w0 g ga gs gd) (hd : w.heap[gd]? = some (.cells cs t (0, 0))) (hos : o + m ≤ cs.size) (hm0 : 0 < m) (hm : m ≤ 9223372036854775807) (hml : m ≤ lim - (base + k)) :
    Calls Tryz.prog 228 #[.pointer (some ⟨gs, 0, none⟩), .slice (some ⟨gd, o, none⟩) m cm] w fun e w' => ∃ (j : Nat) (v : Value), j = min m ((secBs base lim bs).length - k) ∧ e = .returned (.tuple #[.int .i64 j, v]) ∧ ((v = .nilIface ∧ 0 < j) ∨ (v = ve ∧ j < m)) ∧ SeS w0 g ga n c base lim z gs bs (k + j) w' ∧ w'.heap[gd]? = some (.cells (putLs cs o (Lib.byteCells (((secBs base lim bs).drop k).take j))) t (0, 0)) ∧ Ex (fun x => x = gs ∨ x = gd) w w' := by
  have hdr : Below w.heap.size w w.drew := bel_drew (Below.refl _ _)
  have hdr3 : Below w.heap.size w w.drew.drew.drew := bel_drewN (Below.refl _ _) 3
  obtain ⟨hold, ⟨i, qq, hqr⟩, hrd, hb, hlen⟩ := hS.frame (Ex.of_below hdr3)
  have hd1 := blk_keep hd hdr3
  have hE := (he.below hold).eof
  have hnD : ¬ gd < w0.heap.size ∧ g ≠ gd ∧ ga ≠ gd ∧ gs ≠ gd := ⟨fun e => hD (.inl e), fun e => hD (.inr (.inl e.symm)), fun e => hD (.inr (.inr (.inl e.symm))), fun e => hD (.inr (.inr (.inr e.symm)))⟩
  have hEg : 0 < w0.heap.size := World.block_lt_of_cell? w0 _ he.eof
  have hll := hrd.len
  have hdl : (secBs base lim bs).length = min (lim - base) (n - base) := by unfold secBs; rw [List.length_take, List.length_drop, hll]
  have hdt : ∀ j, j ≤ lim - (base + k) → ((secBs base lim bs).drop k).take j = (bs.drop (base + k)).take j := fun j hj => by
    unfold secBs
    rw [List.drop_take, List.drop_drop, List.take_take, Nat.min_eq_left (by omega)]
  have HEND0 : ∀ (q : Nat), q = lim - (base + k) → Kp (∀ (j : Nat) (v : Value) (w1 : World), j = min m (n - (base + k)) → ((v = .nilIface ∧ j = m) ∨ (v = ve ∧ j < m)) → RdrAt w1 g ga n c i qq → w1.heap[gd]? = some (.cells (putLs cs o (Lib.byteCells ((bs.drop (base + k)).take j))) t (0, 0)) → Ex (fun x => x = gd) w.drew.drew.drew w1 →
      (∃ (j' : Nat) (v' : Value), j' = min m ((secBs base lim bs).length - k) ∧ Ending.returned (.tuple #[.int .i64 j, v]) = .returned (.tuple #[.int .i64 j', v']) ∧ ((v' = .nilIface ∧ 0 < j') ∨ (v' = ve ∧ j' < m)) ∧ SeS w0 g ga n c base lim z gs bs (k + j') (w1.setCell ⟨gs, 2, none⟩ (.int .i64 (((base + k : Nat) : Int) + (j : Int)))) ∧ (w1.setCell ⟨gs, 2, none⟩ (.int .i64 (((base + k : Nat) : Int) + (j : Int)))).heap[gd]? = some (.cells (putLs cs o (Lib.byteCells (((secBs base lim bs).drop k).take j'))) t (0, 0)) ∧ Ex (fun x => x = gs ∨ x = gd) w (w1.setCell ⟨gs, 2, none⟩ (.int .i64 (((base + k : Nat) : Int) + (j : Int)))))) := fun q hq => ⟨by
    intro j v w1 hj hv h1 h2 h3
    have hx2 : Ex (fun x => x = gs ∨ x = gd) w.drew.drew.drew w1 := h3.mono (fun x hx => .inr hx)
    have hx3 : Ex (fun x => x = gs ∨ x = gd) w.drew.drew.drew (w1.setCell ⟨gs, 2, none⟩ (.int .i64 (((base + k : Nat) : Int) + (j : Int)))) := hx2.setCell (p := ⟨gs, 2, none⟩) (.inl rfl) _
    have hgs1 : w1.heap[gs]? = some (.cells (secCs g base (base + k) lim z) 153 (0, 0)) := h3.keep hb (by show ¬ gs = gd; exact hnD.2.2.2)
    refine ⟨j, v, ?_, rfl, ?_, ⟨hold.trans (hx3.toBelow (fun x hx hn => ?_) hold.size), ⟨i, qq, ?_⟩, ?_, ?_, ?_⟩, ?_, (Ex.of_below hdr3).trans hx3⟩
    · omega
    · rcases hv with ⟨h1, h2⟩ | ⟨h1, h2⟩
      · exact .inl ⟨h1, by omega⟩
      · exact .inr ⟨h1, by omega⟩
    · rcases hn with rfl | rfl <;> omega
    · exact blk_far (p := ⟨gs, 2, none⟩) h1 (by show g ≠ gs; omega) _
    · exact hrd.ex hx3 (by rintro (e | e) <;> omega)
    · have h1 := blk_set hgs1 2 (.int .i64 (((base + k : Nat) : Int) + (j : Int)))
      rw [h1, show base + (k + j) = base + k + j by omega]
      rfl
    · omega
    · have h4 := blk_far (p := ⟨gs, 2, none⟩) h2 (by show gd ≠ gs; exact fun e => hnD.2.2.2 e.symm) (.int .i64 (((base + k : Nat) : Int) + (j : Int)))
      rw [h4, hdt j (by omega)]⟩
  obtain ⟨q, hq⟩ : ∃ q, q = lim - (base + k) := ⟨_, rfl⟩
  have HEND := HEND0 q hq
  clear HEND0
  obtain ⟨p, hp⟩ : ∃ p, p = base + k := ⟨_, rfl⟩
  rw [← hp] at hb hk hml hq
  simp only [← hp] at HEND
  have HQ := Kp.mk (show q = lim - p ∧ p ≤ lim ∧ lim ≤ 9223372036854775807 ∧ m ≤ q from ⟨hq, by omega, hl, by omega⟩)
  have HA := Kp.mk (readAt_calls (tt := t) g ga gd n c o m cm i p qq bs cs ve w.drew.drew.drew hqr hrd ⟨hnD.2.1, hnD.2.2.1⟩ hd1 (by omega) (by omega) (by omega) (by omega) hn hE (by omega))
  obtain ⟨Te, ue, rfl⟩ := he.eofE.iface
  have hmt : ∀ W, (method 453 104 (.pointer (some ⟨g, 0, none⟩)) "ReadAt").run Tryz.prog W = .ok (225, .pointer (some ⟨g, 0, none⟩)) W := fun _ => by kernel_rfl
  have cA : w.drew.drew.drew.cell? ⟨gs, 0, none⟩ = some (.iface 104 (.pointer (some ⟨g, 0, none⟩))) := blk_cell hb 0
  have cB : w.drew.drew.drew.cell? ⟨gs, 2, none⟩ = some (.int .i64 p) := blk_cell hb 2
  have c2 : w.drew.cell? ⟨gs, 2, none⟩ = some (.int .i64 p) := blk_cell hb 2
  have c3 : w.drew.cell? ⟨gs, 3, none⟩ = some (.int .i64 lim) := blk_cell hb 3
  have q1 : decide ((lim : Int) ≤ (p : Int)) = false := decide_eq_false (by omega)
  have q2 : ¬ (lim : Int) ≤ (p : Int) := by omega
  have qw : IntKind.i64.wrap ((lim : Int) - (p : Int)) = (q : Int) := by
    have h3 : ((lim : Int) - (p : Int)) % 18446744073709551616 = (q : Int) := by omega
    simp only [IntKind.wrap, IntKind.bits, IntKind.signed]
    simp only [show (2 : Int) ^ 64 = 18446744073709551616 from rfl, show (2 : Int) ^ (64 - 1) = 9223372036854775808 from rfl, h3]
    rw [if_neg (by simp; omega)]
  have c2' : w.drew.drew.cell? ⟨gs, 2, none⟩ = some (.int .i64 p) := c2
  have c3' : w.drew.drew.cell? ⟨gs, 3, none⟩ = some (.int .i64 lim) := c3
  have q3 : ¬ (q : Int) < (m : Int) := by omega
  have q5 : ¬ q < m := by omega
  have q4 : decide ((q : Int) < (m : Int)) = false := decide_eq_false q3
  have HB := Kp.mk (And.intro hb trivial)
  have HX := Kp.mk (And.intro hnD trivial)
  have HC := Kp.mk (show True from trivial)
  clear hS he _hg hgs hag hgg hn hl hD hd hos hm0 hm hml hdr hdr3 hold hqr hrd hb hlen hd1 hE hnD hEg hll hdl hdt hp hq
  go_enter Tryz.func228, Tryz.ntmps228
  go_wp2_with fail
  refine wp_region_growR (fun u u' => u = u') (fun _ => rfl) (fun _ _ _ h k => h.trans k) (by kernel_rfl) 9 (by decide) (apart_of (by kernel_rfl)) (by kernel_rfl) (seA gs p lim false) (fun _ _ _ _ => True) (fun _ _ _ _ h _ => by unfold seA at *; exact h) ?_ ?_
  · intro j hj ob ho vs w2 hb hpre
    subst hb
    rcases j with _ | _ | _ | _ | _ | _ | _ | _ | _ | j
    · obtain rfl := Option.some.inj ho
      simp only [canon, List.range, List.range.loop, List.foldl]
      go_simp
      all_goals first | rfl | exact ⟨rfl, rfl⟩ | trivial
    · have e0 : vs 0 = _ := hpre 0 (by decide) (by obtain rfl := Option.some.inj ho; rfl)
      obtain rfl := Option.some.inj ho
      simp only [canon, List.range, List.range.loop, List.foldl]
      go_simp
      all_goals first | rfl | exact ⟨rfl, rfl⟩ | trivial
    · have e1 : vs 1 = _ := hpre 1 (by decide) (by obtain rfl := Option.some.inj ho; rfl)
      obtain rfl := Option.some.inj ho
      simp only [canon, List.range, List.range.loop, List.foldl]
      go_simp
      all_goals first | rfl | exact ⟨rfl, rfl⟩ | trivial
    · have e2 : vs 2 = _ := hpre 2 (by decide) (by obtain rfl := Option.some.inj ho; rfl)
      obtain rfl := Option.some.inj ho
      simp only [canon, List.range, List.range.loop, List.foldl]
      go_simp
      all_goals first | rfl | exact ⟨rfl, rfl⟩ | trivial
    · obtain rfl := Option.some.inj ho
      simp only [canon, List.range, List.range.loop, List.foldl]
      go_simp
      all_goals first | rfl | exact ⟨rfl, rfl⟩ | trivial
    · have e4 : vs 4 = _ := hpre 4 (by decide) (by obtain rfl := Option.some.inj ho; rfl)
      obtain rfl := Option.some.inj ho
      simp only [canon, List.range, List.range.loop, List.foldl]
      go_simp
      all_goals first | rfl | exact ⟨rfl, rfl⟩ | trivial
    · have e5 : vs 5 = _ := hpre 5 (by decide) (by obtain rfl := Option.some.inj ho; rfl)
      obtain rfl := Option.some.inj ho
      simp only [canon, List.range, List.range.loop, List.foldl]
      go_simp
      all_goals first | rfl | exact ⟨rfl, rfl⟩ | trivial
    · have e6 : vs 6 = _ := hpre 6 (by decide) (by obtain rfl := Option.some.inj ho; rfl)
      obtain rfl := Option.some.inj ho
      simp only [canon, List.range, List.range.loop, List.foldl]
      go_simp
      all_goals first | rfl | exact ⟨rfl, rfl⟩ | trivial
    · have e3 : vs 3 = _ := hpre 3 (by decide) (by obtain rfl := Option.some.inj ho; rfl)
      have e7 : vs 7 = _ := hpre 7 (by decide) (by obtain rfl := Option.some.inj ho; rfl)
      obtain rfl := Option.some.inj ho
      simp only [canon, List.range, List.range.loop, List.foldl]
      go_simp
      all_goals first | rfl | exact ⟨rfl, rfl⟩ | trivial
    · omega
  · intro vs w2 hb hr _
    subst hb
    have e0 : vs 0 = _ := hr 0 (by omega)
    have e1 : vs 1 = _ := hr 1 (by omega)
    have e2 : vs 2 = _ := hr 2 (by omega)
    have e3 : vs 3 = _ := hr 3 (by omega)
    have e4 : vs 4 = _ := hr 4 (by omega)
    have e5 : vs 5 = _ := hr 5 (by omega)
    have e6 : vs 6 = _ := hr 6 (by omega)
    have e7 : vs 7 = _ := hr 7 (by omega)
    have e8 : vs 8 = _ := hr 8 (by omega)
    simp only [canon, List.range, List.range.loop, List.foldl]
    refine wpAny_none (by kernel_rfl) ?_ _
    rw [e0, e1, e2, e3, e4, e5, e6, e7, e8]
    go_simp
    go_wp2_with fail
    refine wp_region_growR (fun u u' => u = u') (fun _ => rfl) (fun _ _ _ h k => h.trans k) (by kernel_rfl) 10 (by decide) (apart_of (by kernel_rfl)) (by kernel_rfl) (seC gs p lim q) (fun _ _ _ _ => True) (fun _ _ _ _ h _ => by unfold seC at *; exact h) ?_ ?_
    · intro j hj ob ho vs w2 hb hpre
      subst hb
      rcases j with _ | _ | _ | _ | _ | _ | _ | _ | _ | _ | j
      · obtain rfl := Option.some.inj ho
        simp only [canon, List.range, List.range.loop, List.foldl]
        go_simp
        all_goals first | rfl | exact ⟨rfl, rfl⟩ | trivial
      · have e0 : vs 0 = _ := hpre 0 (by decide) (by obtain rfl := Option.some.inj ho; rfl)
        obtain rfl := Option.some.inj ho
        simp only [canon, List.range, List.range.loop, List.foldl]
        go_simp
        all_goals first | rfl | exact ⟨rfl, rfl⟩ | trivial
      · have e1 : vs 1 = _ := hpre 1 (by decide) (by obtain rfl := Option.some.inj ho; rfl)
        obtain rfl := Option.some.inj ho
        simp only [canon, List.range, List.range.loop, List.foldl]
        go_simp
        all_goals first | rfl | exact ⟨rfl, rfl⟩ | trivial
      · have e2 : vs 2 = _ := hpre 2 (by decide) (by obtain rfl := Option.some.inj ho; rfl)
        obtain rfl := Option.some.inj ho
        simp only [canon, List.range, List.range.loop, List.foldl]
        go_simp
        all_goals first | rfl | exact ⟨rfl, rfl⟩ | trivial
      · obtain rfl := Option.some.inj ho
        simp only [canon, List.range, List.range.loop, List.foldl]
        go_simp
        all_goals first | rfl | exact ⟨rfl, rfl⟩ | trivial
      · have e4 : vs 4 = _ := hpre 4 (by decide) (by obtain rfl := Option.some.inj ho; rfl)
        obtain rfl := Option.some.inj ho
        simp only [canon, List.range, List.range.loop, List.foldl]
        go_simp
        all_goals first | rfl | exact ⟨rfl, rfl⟩ | trivial
      · have e5 : vs 5 = _ := hpre 5 (by decide) (by obtain rfl := Option.some.inj ho; rfl)
        obtain rfl := Option.some.inj ho
        simp only [canon, List.range, List.range.loop, List.foldl]
        go_simp
        all_goals first | rfl | exact ⟨rfl, rfl⟩ | trivial
      · have e6 : vs 6 = _ := hpre 6 (by decide) (by obtain rfl := Option.some.inj ho; rfl)
        obtain rfl := Option.some.inj ho
        simp only [canon, List.range, List.range.loop, List.foldl]
        go_simp
        all_goals first | rfl | exact ⟨rfl, rfl⟩ | trivial
      · have e3 : vs 3 = _ := hpre 3 (by decide) (by obtain rfl := Option.some.inj ho; rfl)
        have e7 : vs 7 = _ := hpre 7 (by decide) (by obtain rfl := Option.some.inj ho; rfl)
        obtain rfl := Option.some.inj ho
        simp only [canon, List.range, List.range.loop, List.foldl]
        go_simp
        all_goals first | rfl | exact ⟨rfl, rfl⟩ | trivial
      · have e8 : vs 8 = _ := hpre 8 (by decide) (by obtain rfl := Option.some.inj ho; rfl)
        obtain rfl := Option.some.inj ho
        simp only [canon, List.range, List.range.loop, List.foldl]
        go_simp
        all_goals first | rfl | exact ⟨rfl, rfl⟩ | trivial
      · omega
    · intro vs w2 hb hr _
      subst hb
      have e0 : vs 0 = _ := hr 0 (by omega)
      have e1 : vs 1 = _ := hr 1 (by omega)
      have e2 : vs 2 = _ := hr 2 (by omega)
      have e3 : vs 3 = _ := hr 3 (by omega)
      have e4 : vs 4 = _ := hr 4 (by omega)
      have e5 : vs 5 = _ := hr 5 (by omega)
      have e6 : vs 6 = _ := hr 6 (by omega)
      have e7 : vs 7 = _ := hr 7 (by omega)
      have e8 : vs 8 = _ := hr 8 (by omega)
      have e9 : vs 9 = _ := hr 9 (by omega)
      simp only [canon, List.range, List.range.loop, List.foldl]
      refine wpAny_none (by kernel_rfl) ?_ _
      rw [e0, e1, e2, e3, e4, e5, e6, e7, e8, e9]
      go_simp
      go_wp2_with fail
      refine wp_region_growR (fun u u' => u = u') (fun _ => rfl) (fun _ _ _ h k => h.trans k) (by kernel_rfl) 11 (by decide) (apart_of (by kernel_rfl)) (by kernel_rfl) (seR g gs gd o m cm p) (fun _ _ _ _ => True) (fun _ _ _ _ h _ => by unfold seR at *; exact h) ?_ ?_
      · intro j hj ob ho vs w2 hb hpre
        subst hb
        rcases j with _ | _ | _ | _ | _ | _ | _ | _ | _ | _ | _ | j
        · obtain rfl := Option.some.inj ho
          simp only [canon, List.range, List.range.loop, List.foldl]
          go_simp
          all_goals first | rfl | exact ⟨rfl, rfl⟩ | trivial
        · have e0 : vs 0 = _ := hpre 0 (by decide) (by obtain rfl := Option.some.inj ho; rfl)
          obtain rfl := Option.some.inj ho
          simp only [canon, List.range, List.range.loop, List.foldl]
          go_simp
          all_goals first | rfl | exact ⟨rfl, rfl⟩ | trivial
        · have e1 : vs 1 = _ := hpre 1 (by decide) (by obtain rfl := Option.some.inj ho; rfl)
          obtain rfl := Option.some.inj ho
          simp only [canon, List.range, List.range.loop, List.foldl]
          go_simp
          all_goals first | rfl | exact ⟨rfl, rfl⟩ | trivial
        · have e2 : vs 2 = _ := hpre 2 (by decide) (by obtain rfl := Option.some.inj ho; rfl)
          obtain rfl := Option.some.inj ho
          simp only [canon, List.range, List.range.loop, List.foldl]
          go_simp
          all_goals first | rfl | exact ⟨rfl, rfl⟩ | trivial
        · obtain rfl := Option.some.inj ho
          simp only [canon, List.range, List.range.loop, List.foldl]
          go_simp
          all_goals first | rfl | exact ⟨rfl, rfl⟩ | trivial
        · obtain rfl := Option.some.inj ho
          simp only [canon, List.range, List.range.loop, List.foldl]
          go_simp
          all_goals first | rfl | exact ⟨rfl, rfl⟩ | trivial
        · have e5 : vs 5 = _ := hpre 5 (by decide) (by obtain rfl := Option.some.inj ho; rfl)
          obtain rfl := Option.some.inj ho
          simp only [canon, List.range, List.range.loop, List.foldl]
          go_simp
          all_goals first | rfl | exact ⟨rfl, rfl⟩ | trivial
        · have e6 : vs 6 = _ := hpre 6 (by decide) (by obtain rfl := Option.some.inj ho; rfl)
          obtain rfl := Option.some.inj ho
          simp only [canon, List.range, List.range.loop, List.foldl]
          go_simp
          all_goals first | rfl | exact ⟨rfl, rfl⟩ | trivial
        · have e7 : vs 7 = _ := hpre 7 (by decide) (by obtain rfl := Option.some.inj ho; rfl)
          obtain rfl := Option.some.inj ho
          simp only [canon, List.range, List.range.loop, List.foldl]
          go_simp
          all_goals first | rfl | exact ⟨rfl, rfl⟩ | trivial
        · have e3 : vs 3 = _ := hpre 3 (by decide) (by obtain rfl := Option.some.inj ho; rfl)
          obtain rfl := Option.some.inj ho
          simp only [canon, List.range, List.range.loop, List.foldl]
          go_simp
          all_goals first | rfl | exact ⟨rfl, rfl⟩ | trivial
        · have e3 : vs 3 = _ := hpre 3 (by decide) (by obtain rfl := Option.some.inj ho; rfl)
          obtain rfl := Option.some.inj ho
          simp only [canon, List.range, List.range.loop, List.foldl]
          go_simp
          all_goals first | rfl | exact ⟨rfl, rfl⟩ | trivial
        · omega
      · intro vs w2 hb hr _
        subst hb
        have e4 : vs 4 = _ := hr 4 (by omega)
        have e8 : vs 8 = _ := hr 8 (by omega)
        have e10 : vs 10 = _ := hr 10 (by omega)
        simp only [canon, List.range, List.range.loop, List.foldl]
        refine wpAny_last 11 (by kernel_rfl) ?_
        refine wpOp_go rfl rfl ?_
        go_simp
        refine HA.out.mono ?_
        rintro e w1 ⟨j, v, hj, rfl, hv, h1, h2, h3⟩
        have HK := Kp.mk (And.intro hj (And.intro hv (And.intro h1 (And.intro h2 h3))))
        clear h1 h2 h3 hj hv HA
        refine wpAny_restR (fun u u' => u = u') (fun _ => rfl) (fun _ _ _ h k => h.trans k) 12 17 rfl (by decide) (apart_of (by kernel_rfl)) (by kernel_rfl) (seR' j v) (fun _ _ _ _ h _ => by unfold seR' at *; exact h) ?_ ?_ ?_
        · intro i hi
          rcases i with _ | _ | _ | _ | _ | _ | _ | _ | _ | _ | _ | _ | i
          all_goals first | trivial | rfl | omega
        · intro j hkj hj ob ho vs w2 hb hpre
          subst hb
          rcases j with _ | _ | _ | _ | _ | _ | _ | _ | _ | _ | _ | _ | _ | _ | _ | _ | _ | j
          iterate 12 (· omega)
          · have e11 : vs 11 = _ := hpre 11 (by decide) (by obtain rfl := Option.some.inj ho; rfl)
            obtain rfl := Option.some.inj ho
            simp only [canon, List.range, List.range.loop, List.foldl]
            go_simp
            all_goals first | rfl | exact ⟨rfl, rfl⟩ | trivial
          · have e12 : vs 12 = _ := hpre 12 (by decide) (by obtain rfl := Option.some.inj ho; rfl)
            obtain rfl := Option.some.inj ho
            simp only [canon, List.range, List.range.loop, List.foldl]
            go_simp
            all_goals first | rfl | exact ⟨rfl, rfl⟩ | trivial
          · have e12 : vs 12 = _ := hpre 12 (by decide) (by obtain rfl := Option.some.inj ho; rfl)
            obtain rfl := Option.some.inj ho
            simp only [canon, List.range, List.range.loop, List.foldl]
            go_simp
            all_goals first | rfl | exact ⟨rfl, rfl⟩ | trivial
          · have e13 : vs 13 = _ := hpre 13 (by decide) (by obtain rfl := Option.some.inj ho; rfl)
            obtain rfl := Option.some.inj ho
            simp only [canon, List.range, List.range.loop, List.foldl]
            go_simp
            all_goals first | rfl | exact ⟨rfl, rfl⟩ | trivial
          · have e14 : vs 14 = _ := hpre 14 (by decide) (by obtain rfl := Option.some.inj ho; rfl)
            obtain rfl := Option.some.inj ho
            simp only [canon, List.range, List.range.loop, List.foldl]
            go_simp
            all_goals first | rfl | exact ⟨rfl, rfl⟩ | trivial
          · omega
        · intro vs w2 hb hr
          subst hb
          have e12 : vs 12 = _ := hr 12 (by omega)
          have e13 : vs 13 = _ := hr 13 (by omega)
          have e14 : vs 14 = _ := hr 14 (by omega)
          have e15 : vs 15 = _ := hr 15 (by omega)
          have e16 : vs 16 = _ := hr 16 (by omega)
          simp only [canon, List.range, List.range.loop, List.foldl]
          rw [e12, e13, e14, e15, e16]
          have hjp : p + j ≤ 9223372036854775807 := by have h1 := HK.out.1; have h2 := HQ.out; omega
          have hgo1 : w1.heap[gs]? = some (.cells (secCs g base p lim z) 153 (0, 0)) := HK.out.2.2.2.2.keep HB.out.1 (by show ¬ gs = gd; exact HX.out.1.2.2.2)
          have c2 : w1.cell? ⟨gs, 2, none⟩ = some (.int .i64 p) := blk_cell hgo1 2
          have f2 : w1.frozen? ⟨gs, 2, none⟩ = false := blk_frozen hgo1 2
          have HW := Kp.mk hgo1
          clear hgo1 hr e4 e8 e10
          go_wp2_with fail
          go_ret2
          exact HEND.out j v w1 HK.out.1 HK.out.2.1 HK.out.2.2.1 HK.out.2.2.2.1 HK.out.2.2.2.2


set_option maxHeartbeats 4000000 in
set_option maxRecDepth 100000 in
theorem secReadL_calls (w0 : World) (g ga n c base lim z gs : Nat) (bs : List UInt8) (ve vu vo vn : Value) (he : RdErrs ve vu vo vn w0) (_hg : w0.heap.size ≤ g) (hgs : w0.heap.size ≤ gs) (hag : ga < g) (hgg : g < gs) (hn : n ≤ 4611686018427387904) (k : Nat) (w : World) (gd : Nat) (t : TypeId) (cs : Array Value) (o m cm : Nat) (hS : SeS w0 g ga n c base lim z gs bs k w) (hk : ¬ lim ≤ base + k) (hl : lim ≤ 9223372036854775807) (hD : ¬ seD w0 g ga gs gd) (hd : w.heap[gd]? = some (.cells cs t (0, 0))) (hos : o + m ≤ cs.size) (hm0 : 0 < m) (hm : m ≤ 9223372036854775807) (hml : lim - (base + k) < m) (hmc : m ≤ cm) :
    Calls Tryz.prog 228 #[.pointer (some ⟨gs, 0, none⟩), .slice (some ⟨gd, o, none⟩) m cm] w fun e w' => ∃ (j : Nat) (v : Value), j = min m ((secBs base lim bs).length - k) ∧ e = .returned (.tuple #[.int .i64 j, v]) ∧ ((v = .nilIface ∧ 0 < j) ∨ (v = ve ∧ j < m)) ∧ SeS w0 g ga n c base lim z gs bs (k + j) w' ∧ w'.heap[gd]? = some (.cells (putLs cs o (Lib.byteCells (((secBs base lim bs).drop k).take j))) t (0, 0)) ∧ Ex (fun x => x = gs ∨ x = gd) w w' := by
  have hdr : Below w.heap.size w w.drew := bel_drew (Below.refl _ _)
  have hdr3 : Below w.heap.size w w.drew.drew.drew := bel_drewN (Below.refl _ _) 3
  obtain ⟨hold, ⟨i, qq, hqr⟩, hrd, hb, hlen⟩ := hS.frame (Ex.of_below hdr3)
  have hd1 := blk_keep hd hdr3
  have hE := (he.below hold).eof
  have hnD : ¬ gd < w0.heap.size ∧ g ≠ gd ∧ ga ≠ gd ∧ gs ≠ gd := ⟨fun e => hD (.inl e), fun e => hD (.inr (.inl e.symm)), fun e => hD (.inr (.inr (.inl e.symm))), fun e => hD (.inr (.inr (.inr e.symm)))⟩
  have hEg : 0 < w0.heap.size := World.block_lt_of_cell? w0 _ he.eof
  have hll := hrd.len
  have hdl : (secBs base lim bs).length = min (lim - base) (n - base) := by unfold secBs; rw [List.length_take, List.length_drop, hll]
  have hdt : ∀ j, j ≤ lim - (base + k) → ((secBs base lim bs).drop k).take j = (bs.drop (base + k)).take j := fun j hj => by
    unfold secBs
    rw [List.drop_take, List.drop_drop, List.take_take, Nat.min_eq_left (by omega)]
  have HEND0 : ∀ (q : Nat), q = lim - (base + k) → Kp (∀ (j : Nat) (v : Value) (w1 : World), j = min q (n - (base + k)) → ((v = .nilIface ∧ j = q) ∨ (v = ve ∧ j < q)) → RdrAt w1 g ga n c i qq → w1.heap[gd]? = some (.cells (putLs cs o (Lib.byteCells ((bs.drop (base + k)).take j))) t (0, 0)) → Ex (fun x => x = gd) w.drew.drew.drew w1 →
      (∃ (j' : Nat) (v' : Value), j' = min m ((secBs base lim bs).length - k) ∧ Ending.returned (.tuple #[.int .i64 j, v]) = .returned (.tuple #[.int .i64 j', v']) ∧ ((v' = .nilIface ∧ 0 < j') ∨ (v' = ve ∧ j' < m)) ∧ SeS w0 g ga n c base lim z gs bs (k + j') (w1.setCell ⟨gs, 2, none⟩ (.int .i64 (((base + k : Nat) : Int) + (j : Int)))) ∧ (w1.setCell ⟨gs, 2, none⟩ (.int .i64 (((base + k : Nat) : Int) + (j : Int)))).heap[gd]? = some (.cells (putLs cs o (Lib.byteCells (((secBs base lim bs).drop k).take j'))) t (0, 0)) ∧ Ex (fun x => x = gs ∨ x = gd) w (w1.setCell ⟨gs, 2, none⟩ (.int .i64 (((base + k : Nat) : Int) + (j : Int)))))) := fun q hq => ⟨by
    intro j v w1 hj hv h1 h2 h3
    have hx2 : Ex (fun x => x = gs ∨ x = gd) w.drew.drew.drew w1 := h3.mono (fun x hx => .inr hx)
    have hx3 : Ex (fun x => x = gs ∨ x = gd) w.drew.drew.drew (w1.setCell ⟨gs, 2, none⟩ (.int .i64 (((base + k : Nat) : Int) + (j : Int)))) := hx2.setCell (p := ⟨gs, 2, none⟩) (.inl rfl) _
    have hgs1 : w1.heap[gs]? = some (.cells (secCs g base (base + k) lim z) 153 (0, 0)) := h3.keep hb (by show ¬ gs = gd; exact hnD.2.2.2)
    refine ⟨j, v, ?_, rfl, ?_, ⟨hold.trans (hx3.toBelow (fun x hx hn => ?_) hold.size), ⟨i, qq, ?_⟩, ?_, ?_, ?_⟩, ?_, (Ex.of_below hdr3).trans hx3⟩
    · omega
    · rcases hv with ⟨h1, h2⟩ | ⟨h1, h2⟩
      · exact .inl ⟨h1, by omega⟩
      · exact .inr ⟨h1, by omega⟩
    · rcases hn with rfl | rfl <;> omega
    · exact blk_far (p := ⟨gs, 2, none⟩) h1 (by show g ≠ gs; omega) _
    · exact hrd.ex hx3 (by rintro (e | e) <;> omega)
    · have h1 := blk_set hgs1 2 (.int .i64 (((base + k : Nat) : Int) + (j : Int)))
      rw [h1, show base + (k + j) = base + k + j by omega]
      rfl
    · omega
    · have h4 := blk_far (p := ⟨gs, 2, none⟩) h2 (by show gd ≠ gs; exact fun e => hnD.2.2.2 e.symm) (.int .i64 (((base + k : Nat) : Int) + (j : Int)))
      rw [h4, hdt j (by omega)]⟩
  obtain ⟨q, hq⟩ : ∃ q, q = lim - (base + k) := ⟨_, rfl⟩
  have HEND := HEND0 q hq
  clear HEND0
  obtain ⟨p, hp⟩ : ∃ p, p = base + k := ⟨_, rfl⟩
  rw [← hp] at hb hk hml hq
  simp only [← hp] at HEND
  have HQ := Kp.mk (show q = lim - p ∧ p ≤ lim ∧ lim ≤ 9223372036854775807 ∧ q < m from ⟨hq, by omega, hl, by omega⟩)
  have HA := Kp.mk (readAt_calls (tt := t) g ga gd n c o q cm i p qq bs cs ve w.drew.drew.drew hqr hrd ⟨hnD.2.1, hnD.2.2.1⟩ hd1 (by omega) (by omega) (by omega) (by omega) hn hE (by omega))
  obtain ⟨Te, ue, rfl⟩ := he.eofE.iface
  have hmt : ∀ W, (method 453 104 (.pointer (some ⟨g, 0, none⟩)) "ReadAt").run Tryz.prog W = .ok (225, .pointer (some ⟨g, 0, none⟩)) W := fun _ => by kernel_rfl
  have cA : w.drew.drew.drew.cell? ⟨gs, 0, none⟩ = some (.iface 104 (.pointer (some ⟨g, 0, none⟩))) := blk_cell hb 0
  have cB : w.drew.drew.drew.cell? ⟨gs, 2, none⟩ = some (.int .i64 p) := blk_cell hb 2
  have c2 : w.drew.cell? ⟨gs, 2, none⟩ = some (.int .i64 p) := blk_cell hb 2
  have c3 : w.drew.cell? ⟨gs, 3, none⟩ = some (.int .i64 lim) := blk_cell hb 3
  have q1 : decide ((lim : Int) ≤ (p : Int)) = false := decide_eq_false (by omega)
  have q2 : ¬ (lim : Int) ≤ (p : Int) := by omega
  have qw : IntKind.i64.wrap ((lim : Int) - (p : Int)) = (q : Int) := by
    have h3 : ((lim : Int) - (p : Int)) % 18446744073709551616 = (q : Int) := by omega
    simp only [IntKind.wrap, IntKind.bits, IntKind.signed]
    simp only [show (2 : Int) ^ 64 = 18446744073709551616 from rfl, show (2 : Int) ^ (64 - 1) = 9223372036854775808 from rfl, h3]
    rw [if_neg (by simp; omega)]
  have c2' : w.drew.drew.cell? ⟨gs, 2, none⟩ = some (.int .i64 p) := c2
  have c3' : w.drew.drew.cell? ⟨gs, 3, none⟩ = some (.int .i64 lim) := c3
  have q3 : (q : Int) < (m : Int) := by omega
  have q5 : q < m := by omega
  have q4 : decide ((q : Int) < (m : Int)) = true := decide_eq_true q3
  have HB := Kp.mk (And.intro hb trivial)
  have HX := Kp.mk (And.intro hnD trivial)
  have HC := Kp.mk (show q ≤ cm from by omega)
  have qc : q ≤ cm := by omega
  clear hS he _hg hgs hag hgg hn hl hD hd hos hm0 hm hml hmc hdr hdr3 hold hqr hrd hb hlen hd1 hE hnD hEg hll hdl hdt hp hq
  go_enter Tryz.func228, Tryz.ntmps228
  go_wp2_with fail
  refine wp_region_growR (fun u u' => u = u') (fun _ => rfl) (fun _ _ _ h k => h.trans k) (by kernel_rfl) 9 (by decide) (apart_of (by kernel_rfl)) (by kernel_rfl) (seA gs p lim false) (fun _ _ _ _ => True) (fun _ _ _ _ h _ => by unfold seA at *; exact h) ?_ ?_
  · intro j hj ob ho vs w2 hb hpre
    subst hb
    rcases j with _ | _ | _ | _ | _ | _ | _ | _ | _ | j
    · obtain rfl := Option.some.inj ho
      simp only [canon, List.range, List.range.loop, List.foldl]
      go_simp
      all_goals first | rfl | exact ⟨rfl, rfl⟩ | trivial
    · have e0 : vs 0 = _ := hpre 0 (by decide) (by obtain rfl := Option.some.inj ho; rfl)
      obtain rfl := Option.some.inj ho
      simp only [canon, List.range, List.range.loop, List.foldl]
      go_simp
      all_goals first | rfl | exact ⟨rfl, rfl⟩ | trivial
    · have e1 : vs 1 = _ := hpre 1 (by decide) (by obtain rfl := Option.some.inj ho; rfl)
      obtain rfl := Option.some.inj ho
      simp only [canon, List.range, List.range.loop, List.foldl]
      go_simp
      all_goals first | rfl | exact ⟨rfl, rfl⟩ | trivial
    · have e2 : vs 2 = _ := hpre 2 (by decide) (by obtain rfl := Option.some.inj ho; rfl)
      obtain rfl := Option.some.inj ho
      simp only [canon, List.range, List.range.loop, List.foldl]
      go_simp
      all_goals first | rfl | exact ⟨rfl, rfl⟩ | trivial
    · obtain rfl := Option.some.inj ho
      simp only [canon, List.range, List.range.loop, List.foldl]
      go_simp
      all_goals first | rfl | exact ⟨rfl, rfl⟩ | trivial
    · have e4 : vs 4 = _ := hpre 4 (by decide) (by obtain rfl := Option.some.inj ho; rfl)
      obtain rfl := Option.some.inj ho
      simp only [canon, List.range, List.range.loop, List.foldl]
      go_simp
      all_goals first | rfl | exact ⟨rfl, rfl⟩ | trivial
    · have e5 : vs 5 = _ := hpre 5 (by decide) (by obtain rfl := Option.some.inj ho; rfl)
      obtain rfl := Option.some.inj ho
      simp only [canon, List.range, List.range.loop, List.foldl]
      go_simp
      all_goals first | rfl | exact ⟨rfl, rfl⟩ | trivial
    · have e6 : vs 6 = _ := hpre 6 (by decide) (by obtain rfl := Option.some.inj ho; rfl)
      obtain rfl := Option.some.inj ho
      simp only [canon, List.range, List.range.loop, List.foldl]
      go_simp
      all_goals first | rfl | exact ⟨rfl, rfl⟩ | trivial
    · have e3 : vs 3 = _ := hpre 3 (by decide) (by obtain rfl := Option.some.inj ho; rfl)
      have e7 : vs 7 = _ := hpre 7 (by decide) (by obtain rfl := Option.some.inj ho; rfl)
      obtain rfl := Option.some.inj ho
      simp only [canon, List.range, List.range.loop, List.foldl]
      go_simp
      all_goals first | rfl | exact ⟨rfl, rfl⟩ | trivial
    · omega
  · intro vs w2 hb hr _
    subst hb
    have e0 : vs 0 = _ := hr 0 (by omega)
    have e1 : vs 1 = _ := hr 1 (by omega)
    have e2 : vs 2 = _ := hr 2 (by omega)
    have e3 : vs 3 = _ := hr 3 (by omega)
    have e4 : vs 4 = _ := hr 4 (by omega)
    have e5 : vs 5 = _ := hr 5 (by omega)
    have e6 : vs 6 = _ := hr 6 (by omega)
    have e7 : vs 7 = _ := hr 7 (by omega)
    have e8 : vs 8 = _ := hr 8 (by omega)
    simp only [canon, List.range, List.range.loop, List.foldl]
    refine wpAny_none (by kernel_rfl) ?_ _
    rw [e0, e1, e2, e3, e4, e5, e6, e7, e8]
    go_simp
    go_wp2_with fail
    refine wp_region_growR (fun u u' => u = u') (fun _ => rfl) (fun _ _ _ h k => h.trans k) (by kernel_rfl) 10 (by decide) (apart_of (by kernel_rfl)) (by kernel_rfl) (seC gs p lim q) (fun _ _ _ _ => True) (fun _ _ _ _ h _ => by unfold seC at *; exact h) ?_ ?_
    · intro j hj ob ho vs w2 hb hpre
      subst hb
      rcases j with _ | _ | _ | _ | _ | _ | _ | _ | _ | _ | j
      · obtain rfl := Option.some.inj ho
        simp only [canon, List.range, List.range.loop, List.foldl]
        go_simp
        all_goals first | rfl | exact ⟨rfl, rfl⟩ | trivial
      · have e0 : vs 0 = _ := hpre 0 (by decide) (by obtain rfl := Option.some.inj ho; rfl)
        obtain rfl := Option.some.inj ho
        simp only [canon, List.range, List.range.loop, List.foldl]
        go_simp
        all_goals first | rfl | exact ⟨rfl, rfl⟩ | trivial
      · have e1 : vs 1 = _ := hpre 1 (by decide) (by obtain rfl := Option.some.inj ho; rfl)
        obtain rfl := Option.some.inj ho
        simp only [canon, List.range, List.range.loop, List.foldl]
        go_simp
        all_goals first | rfl | exact ⟨rfl, rfl⟩ | trivial
      · have e2 : vs 2 = _ := hpre 2 (by decide) (by obtain rfl := Option.some.inj ho; rfl)
        obtain rfl := Option.some.inj ho
        simp only [canon, List.range, List.range.loop, List.foldl]
        go_simp
        all_goals first | rfl | exact ⟨rfl, rfl⟩ | trivial
      · obtain rfl := Option.some.inj ho
        simp only [canon, List.range, List.range.loop, List.foldl]
        go_simp
        all_goals first | rfl | exact ⟨rfl, rfl⟩ | trivial
      · have e4 : vs 4 = _ := hpre 4 (by decide) (by obtain rfl := Option.some.inj ho; rfl)
        obtain rfl := Option.some.inj ho
        simp only [canon, List.range, List.range.loop, List.foldl]
        go_simp
        all_goals first | rfl | exact ⟨rfl, rfl⟩ | trivial
      · have e5 : vs 5 = _ := hpre 5 (by decide) (by obtain rfl := Option.some.inj ho; rfl)
        obtain rfl := Option.some.inj ho
        simp only [canon, List.range, List.range.loop, List.foldl]
        go_simp
        all_goals first | rfl | exact ⟨rfl, rfl⟩ | trivial
      · have e6 : vs 6 = _ := hpre 6 (by decide) (by obtain rfl := Option.some.inj ho; rfl)
        obtain rfl := Option.some.inj ho
        simp only [canon, List.range, List.range.loop, List.foldl]
        go_simp
        all_goals first | rfl | exact ⟨rfl, rfl⟩ | trivial
      · have e3 : vs 3 = _ := hpre 3 (by decide) (by obtain rfl := Option.some.inj ho; rfl)
        have e7 : vs 7 = _ := hpre 7 (by decide) (by obtain rfl := Option.some.inj ho; rfl)
        obtain rfl := Option.some.inj ho
        simp only [canon, List.range, List.range.loop, List.foldl]
        go_simp
        all_goals first | rfl | exact ⟨rfl, rfl⟩ | trivial
      · have e8 : vs 8 = _ := hpre 8 (by decide) (by obtain rfl := Option.some.inj ho; rfl)
        obtain rfl := Option.some.inj ho
        simp only [canon, List.range, List.range.loop, List.foldl]
        go_simp
        all_goals first | rfl | exact ⟨rfl, rfl⟩ | trivial
      · omega
    · intro vs w2 hb hr _
      subst hb
      have e0 : vs 0 = _ := hr 0 (by omega)
      have e1 : vs 1 = _ := hr 1 (by omega)
      have e2 : vs 2 = _ := hr 2 (by omega)
      have e3 : vs 3 = _ := hr 3 (by omega)
      have e4 : vs 4 = _ := hr 4 (by omega)
      have e5 : vs 5 = _ := hr 5 (by omega)
      have e6 : vs 6 = _ := hr 6 (by omega)
      have e7 : vs 7 = _ := hr 7 (by omega)
      have e8 : vs 8 = _ := hr 8 (by omega)
      have e9 : vs 9 = _ := hr 9 (by omega)
      simp only [canon, List.range, List.range.loop, List.foldl]
      refine wpAny_none (by kernel_rfl) ?_ _
      rw [e0, e1, e2, e3, e4, e5, e6, e7, e8, e9]
      go_simp
      go_wp2_with fail
      refine wp_region_growR (fun u u' => u = u') (fun _ => rfl) (fun _ _ _ h k => h.trans k) (by kernel_rfl) 11 (by decide) (apart_of (by kernel_rfl)) (by kernel_rfl) (seR g gs gd o q cm p) (fun _ _ _ _ => True) (fun _ _ _ _ h _ => by unfold seR at *; exact h) ?_ ?_
      · intro j hj ob ho vs w2 hb hpre
        subst hb
        rcases j with _ | _ | _ | _ | _ | _ | _ | _ | _ | _ | _ | j
        · obtain rfl := Option.some.inj ho
          simp only [canon, List.range, List.range.loop, List.foldl]
          go_simp
          all_goals first | rfl | exact ⟨rfl, rfl⟩ | trivial
        · have e0 : vs 0 = _ := hpre 0 (by decide) (by obtain rfl := Option.some.inj ho; rfl)
          obtain rfl := Option.some.inj ho
          simp only [canon, List.range, List.range.loop, List.foldl]
          go_simp
          all_goals first | rfl | exact ⟨rfl, rfl⟩ | trivial
        · have e1 : vs 1 = _ := hpre 1 (by decide) (by obtain rfl := Option.some.inj ho; rfl)
          obtain rfl := Option.some.inj ho
          simp only [canon, List.range, List.range.loop, List.foldl]
          go_simp
          all_goals first | rfl | exact ⟨rfl, rfl⟩ | trivial
        · have e2 : vs 2 = _ := hpre 2 (by decide) (by obtain rfl := Option.some.inj ho; rfl)
          obtain rfl := Option.some.inj ho
          simp only [canon, List.range, List.range.loop, List.foldl]
          go_simp
          all_goals first | rfl | exact ⟨rfl, rfl⟩ | trivial
        · obtain rfl := Option.some.inj ho
          simp only [canon, List.range, List.range.loop, List.foldl]
          go_simp
          all_goals first | rfl | exact ⟨rfl, rfl⟩ | trivial
        · obtain rfl := Option.some.inj ho
          simp only [canon, List.range, List.range.loop, List.foldl]
          go_simp
          all_goals first | rfl | exact ⟨rfl, rfl⟩ | trivial
        · have e5 : vs 5 = _ := hpre 5 (by decide) (by obtain rfl := Option.some.inj ho; rfl)
          obtain rfl := Option.some.inj ho
          simp only [canon, List.range, List.range.loop, List.foldl]
          go_simp
          all_goals first | rfl | exact ⟨rfl, rfl⟩ | trivial
        · have e6 : vs 6 = _ := hpre 6 (by decide) (by obtain rfl := Option.some.inj ho; rfl)
          obtain rfl := Option.some.inj ho
          simp only [canon, List.range, List.range.loop, List.foldl]
          go_simp
          all_goals first | rfl | exact ⟨rfl, rfl⟩ | trivial
        · have e7 : vs 7 = _ := hpre 7 (by decide) (by obtain rfl := Option.some.inj ho; rfl)
          obtain rfl := Option.some.inj ho
          simp only [canon, List.range, List.range.loop, List.foldl]
          go_simp
          all_goals first | rfl | exact ⟨rfl, rfl⟩ | trivial
        · have e3 : vs 3 = _ := hpre 3 (by decide) (by obtain rfl := Option.some.inj ho; rfl)
          obtain rfl := Option.some.inj ho
          simp only [canon, List.range, List.range.loop, List.foldl]
          go_simp
          all_goals first | rfl | exact ⟨rfl, rfl⟩ | trivial
        · have e3 : vs 3 = _ := hpre 3 (by decide) (by obtain rfl := Option.some.inj ho; rfl)
          obtain rfl := Option.some.inj ho
          simp only [canon, List.range, List.range.loop, List.foldl]
          go_simp
          all_goals first | rfl | exact ⟨rfl, rfl⟩ | trivial
        · omega
      · intro vs w2 hb hr _
        subst hb
        have e4 : vs 4 = _ := hr 4 (by omega)
        have e8 : vs 8 = _ := hr 8 (by omega)
        have e10 : vs 10 = _ := hr 10 (by omega)
        simp only [canon, List.range, List.range.loop, List.foldl]
        refine wpAny_last 11 (by kernel_rfl) ?_
        refine wpOp_go rfl rfl ?_
        go_simp
        refine HA.out.mono ?_
        rintro e w1 ⟨j, v, hj, rfl, hv, h1, h2, h3⟩
        have HK := Kp.mk (And.intro hj (And.intro hv (And.intro h1 (And.intro h2 h3))))
        clear h1 h2 h3 hj hv HA
        refine wpAny_restR (fun u u' => u = u') (fun _ => rfl) (fun _ _ _ h k => h.trans k) 12 17 rfl (by decide) (apart_of (by kernel_rfl)) (by kernel_rfl) (seR' j v) (fun _ _ _ _ h _ => by unfold seR' at *; exact h) ?_ ?_ ?_
        · intro i hi
          rcases i with _ | _ | _ | _ | _ | _ | _ | _ | _ | _ | _ | _ | i
          all_goals first | trivial | rfl | omega
        · intro j hkj hj ob ho vs w2 hb hpre
          subst hb
          rcases j with _ | _ | _ | _ | _ | _ | _ | _ | _ | _ | _ | _ | _ | _ | _ | _ | _ | j
          iterate 12 (· omega)
          · have e11 : vs 11 = _ := hpre 11 (by decide) (by obtain rfl := Option.some.inj ho; rfl)
            obtain rfl := Option.some.inj ho
            simp only [canon, List.range, List.range.loop, List.foldl]
            go_simp
            all_goals first | rfl | exact ⟨rfl, rfl⟩ | trivial
          · have e12 : vs 12 = _ := hpre 12 (by decide) (by obtain rfl := Option.some.inj ho; rfl)
            obtain rfl := Option.some.inj ho
            simp only [canon, List.range, List.range.loop, List.foldl]
            go_simp
            all_goals first | rfl | exact ⟨rfl, rfl⟩ | trivial
          · have e12 : vs 12 = _ := hpre 12 (by decide) (by obtain rfl := Option.some.inj ho; rfl)
            obtain rfl := Option.some.inj ho
            simp only [canon, List.range, List.range.loop, List.foldl]
            go_simp
            all_goals first | rfl | exact ⟨rfl, rfl⟩ | trivial
          · have e13 : vs 13 = _ := hpre 13 (by decide) (by obtain rfl := Option.some.inj ho; rfl)
            obtain rfl := Option.some.inj ho
            simp only [canon, List.range, List.range.loop, List.foldl]
            go_simp
            all_goals first | rfl | exact ⟨rfl, rfl⟩ | trivial
          · have e14 : vs 14 = _ := hpre 14 (by decide) (by obtain rfl := Option.some.inj ho; rfl)
            obtain rfl := Option.some.inj ho
            simp only [canon, List.range, List.range.loop, List.foldl]
            go_simp
            all_goals first | rfl | exact ⟨rfl, rfl⟩ | trivial
          · omega
        · intro vs w2 hb hr
          subst hb
          have e12 : vs 12 = _ := hr 12 (by omega)
          have e13 : vs 13 = _ := hr 13 (by omega)
          have e14 : vs 14 = _ := hr 14 (by omega)
          have e15 : vs 15 = _ := hr 15 (by omega)
          have e16 : vs 16 = _ := hr 16 (by omega)
          simp only [canon, List.range, List.range.loop, List.foldl]
          rw [e12, e13, e14, e15, e16]
          have hjp : p + j ≤ 9223372036854775807 := by have h1 := HK.out.1; have h2 := HQ.out; omega
          have hgo1 : w1.heap[gs]? = some (.cells (secCs g base p lim z) 153 (0, 0)) := HK.out.2.2.2.2.keep HB.out.1 (by show ¬ gs = gd; exact HX.out.1.2.2.2)
          have c2 : w1.cell? ⟨gs, 2, none⟩ = some (.int .i64 p) := blk_cell hgo1 2
          have f2 : w1.frozen? ⟨gs, 2, none⟩ = false := blk_frozen hgo1 2
          have HW := Kp.mk hgo1
          clear hgo1 hr e4 e8 e10
          go_wp2_with fail
          go_ret2
          exact HEND.out j v w1 HK.out.1 HK.out.2.1 HK.out.2.2.1 HK.out.2.2.2.1 HK.out.2.2.2.2

/-- A section as a reader. -/
theorem srcSec (w0 : World) (g ga n c base lim z gs : Nat) (bs : List UInt8) (ve vu vo vn : Value) (he : RdErrs ve vu vo vn w0) (hg : w0.heap.size ≤ g) (hgs : w0.heap.size ≤ gs) (hag : ga < g) (hgg : g < gs) (hn : n ≤ 4611686018427387904) (hl : lim ≤ 9223372036854775807) :
    Src 117 (.pointer (some ⟨gs, 0, none⟩)) 228 (secBs base lim bs) ve vu vo vn (· = gs) (seD w0 g ga gs) (SeS w0 g ga n c base lim z gs bs) := by
  refine ⟨fun _ => by kernel_rfl, fun _ => by kernel_rfl, enters_of Tryz.func228 (by kernel_rfl) rfl, ?_, fun k w w' h hx => h.frame hx, fun k w h => he.below h.old, fun k w h => h.lt hag, fun x hx => .inr (.inr (.inr hx))⟩
  intro k w gd t cs o m cm hS hD hd hos hmc hm0 hm
  by_cases hk : lim ≤ base + k
  · refine (secEnd_calls w0 g ga n c base lim z gs bs ve vu vo vn he (some ⟨gd, o, none⟩) m cm k w hS hk).mono ?_
    rintro e w' ⟨rfl, hb⟩
    have hlen : (secBs base lim bs).length - k = 0 := by unfold secBs; rw [List.length_take]; omega
    exact ⟨0, ve, by omega, rfl, .inr ⟨rfl, hm0⟩, hS.frame (Ex.of_below hb), blk_keep hd hb, Ex.of_below hb⟩
  · by_cases hml : m ≤ lim - (base + k)
    · exact secRead_calls w0 g ga n c base lim z gs bs ve vu vo vn he hg hgs hag hgg hn k w gd t cs o m cm hS hk hl hD hd hos hm0 hm hml
    · exact secReadL_calls w0 g ga n c base lim z gs bs ve vu vo vn he hg hgs hag hgg hn k w gd t cs o m cm hS hk hl hD hd hos hm0 hm (by omega) hmc

end Go.Proofs.YtkcpgcaccgahaaaGreatDoor
