/- Some texts in one: RAt, OffS, OffB, NewOff. -/
import Derived.Test.YtkcpgcaccgahaaaGreatDoorSrcB
import Derived.Test.YtkcpgcaccgahaaaGreatDoorLdG
import Derived.Test.YtkcpgcaccgahaaaGreatDoorGrowB
namespace Go.Proofs.YtkcpgcaccgahaaaGreatDoor
open Go.RowKit

/-- What operations 0 to 6 of the copying region leave. -/
def raG (g ga gd n c o m cm off : Nat) (j : Nat) (v : Value) (_ : World) : Prop :=
  match j with
  | 0 => v = .slice (some ⟨gd, o, none⟩) m cm
  | 1 => v = .pointer (some ⟨g, 0, none⟩)
  | 2 => v = .pointer (some ⟨g, 0, none⟩)
  | 3 => v = .pointer (some ⟨g, 0, none⟩)
  | 4 => v = .slice (some ⟨ga, 0, none⟩) n c
  | 5 => v = .int .i64 off
  | 6 => v = .slice (some ⟨ga, off, none⟩) (n - off) (c - off)
  | _ => True

/-- What ReadAt leaves. -/
def RaEnd (g ga gd n c o m i off : Nat) (q : Int) (tt : TypeId) (bs : List UInt8) (cs : Array Value) (ve : Value) (w : World) (e : Ending) (w' : World) : Prop :=
  ∃ (j : Nat) (v : Value), j = min m (n - off) ∧ e = .returned (.tuple #[.int .i64 j, v]) ∧ ((v = .nilIface ∧ j = m) ∨ (v = ve ∧ j < m)) ∧ RdrAt w' g ga n c i q ∧ w'.heap[gd]? = some (.cells (putLs cs o (Lib.byteCells ((bs.drop off).take j))) tt (0, 0)) ∧ Ex (fun x => x = gd) w w'

set_option maxHeartbeats 4000000 in
set_option maxRecDepth 100000 in
/-- (*bytes.Reader).ReadAt. -/
theorem readAt_calls {tt : TypeId} (g ga gd n c o m cm i off : Nat) (q : Int) (bs : List UInt8) (cs : Array Value) (ve : Value) (w : World) (hg : RdrAt w g ga n c i q) (hr : RdB w (some ⟨ga, 0, none⟩) n c bs) (hne : g ≠ gd ∧ ga ≠ gd)
    (hd : w.heap[gd]? = some (.cells cs tt (0, 0))) (hos : o + m ≤ cs.size) (hm0 : 0 < m) (hm63 : m ≤ 9223372036854775807) (_hoff : off ≤ 9223372036854775807) (hn : n ≤ 4611686018427387904) (hv : w.cell? ⟨0, 0, none⟩ = some ve) (hgE : 0 ≠ gd) :
    Calls Tryz.prog 225 #[.pointer (some ⟨g, 0, none⟩), .slice (some ⟨gd, o, none⟩) m cm, .int .i64 off] w fun e w' => RaEnd g ga gd n c o m i off q tt bs cs ve w e w' := by
  have c0 := blk_cell hg 0
  have HG := Kp.mk hg
  have HV := Kp.mk hv
  have HR := Kp.mk hr
  have HD := Kp.mk hd
  have HX := Kp.mk (And.intro hne (And.intro hos (And.intro hm0 (And.intro hm63 (And.intro hn (And.intro hgE (And.intro hr.len hr.cap)))))))
  by_cases hoo : n ≤ off
  · have q1 : decide ((n : Int) ≤ (off : Int)) = true := decide_eq_true (by omega)
    have cv := hv
    clear hg hr hne hd hos hm0 hm63 hn hv hgE
    go_enter Tryz.func225, Tryz.ntmps225
    go_wp2_with fail
    go_quiet (fail)
    go_wp2_with fail
    go_ret2
    exact ⟨0, ve, by omega, rfl, .inr ⟨rfl, HX.out.2.2.1⟩, HG.out, HD.out, (Ex.refl _ _).drewN _⟩
  · have q1 : decide ((n : Int) ≤ (off : Int)) = false := decide_eq_false (by omega)
    obtain ⟨j, hj⟩ : ∃ j, j = min m (n - off) := ⟨_, rfl⟩
    have hl := hr.len
    have hcells : ∀ i, i < m → (w.cell? ⟨gd, o + i, none⟩).isSome = true ∧ w.frozen? ⟨gd, o + i, none⟩ = false := fun i hi =>
      ⟨by rw [blk_cell hd, Array.getElem?_eq_getElem (by omega)]; rfl, blk_frozen hd _⟩
    have hcut : RdB w (some ⟨ga, off, none⟩) (n - off) (c - off) (bs.drop off) := by
      have h := hr.drop off (by omega)
      have hcc := hr.cap
      rw [if_neg (by omega)] at h
      simpa [add_plain] using h
    have hcopy := copy_min w gd o m cm (c - off) (n - off) j ga off (bs.drop off) hcut hj (by omega) (fun i hi => (hcells i (by omega)).1) (fun i hi => (hcells i (by omega)).2)
    have hput := blk_setCells (Lib.byteCells ((bs.drop off).take j)) o cs hd
    have hx : Ex (fun x => x = gd) w (w.setCells gd o (Lib.byteCells ((bs.drop off).take j))) := Ex.setCells (P := fun x => x = gd) rfl _ _ (Ex.refl _ _)
    have hcs := cut_at 67 .i64 Tryz.underlying67 ga n c off (by omega) hr.cap
    have HG4 := Kp.mk (And.intro (hx.keep hg (by show ¬ g = gd; exact hne.1)) (And.intro hput hx))
    have hj0 : 0 < j := by omega
    have hjm : j ≤ m := by omega
    have HJ := Kp.mk hj
    generalize hW : w.setCells gd o (Lib.byteCells ((bs.drop off).take j)) = W at *
    have cv : W.cell? ⟨0, 0, none⟩ = some ve := hx.cell hv hgE
    clear hg hr hne hd hos hm0 hm63 hn hv hgE hj hl hcells hcut hput hx hW
    go_enter Tryz.func225, Tryz.ntmps225
    go_wp2_with fail
    · go_ret2
      exact ⟨j, ve, HJ.out, rfl, .inr ⟨rfl, by omega⟩, HG4.out.1, HG4.out.2.1, HG4.out.2.2⟩
    · go_ret2
      exact ⟨j, .nilIface, HJ.out, rfl, .inl ⟨rfl, by omega⟩, HG4.out.1, HG4.out.2.1, HG4.out.2.2⟩

end Go.Proofs.YtkcpgcaccgahaaaGreatDoor
namespace Go.Proofs.YtkcpgcaccgahaaaGreatDoor
open Go.RowKit

def offCs (g base off b : Nat) : Array Value := #[.iface 104 (.pointer (some ⟨g, 0, none⟩)), .int .i64 base, .int .i64 off, .int .u8 b]
/-- An offsetReadSeeker that begins at base, k bytes on. -/
structure OfS (w0 : World) (g ga n c base go : Nat) (bs : List UInt8) (k : Nat) (w : World) : Prop where
  old : Below w0.heap.size w0 w
  rdr : ∃ i q, RdrAt w g ga n c i q
  rd : RdB w (some ⟨ga, 0, none⟩) n c bs
  blk : ∃ b, w.heap[go]? = some (.cells (offCs g base (base + k) b) 158 (0, 0))
  len : k ≤ (bs.drop base).length
def ofD (w0 : World) (g ga go : Nat) (x : Nat) : Prop := x < w0.heap.size ∨ x = g ∨ x = ga ∨ x = go
theorem OfS.lt {w0 : World} {g ga n c base go : Nat} {bs : List UInt8} {k : Nat} {w : World} (h : OfS w0 g ga n c base go bs k w) (hag : ga < g) : ∀ x, ofD w0 g ga go x → x < w.heap.size := by
  obtain ⟨i, q, hq⟩ := h.rdr
  obtain ⟨b, hb⟩ := h.blk
  have h1 := (Array.getElem?_eq_some_iff.1 hq).1
  have h3 := (Array.getElem?_eq_some_iff.1 hb).1
  have h2 := h.old.size
  rintro x (hx | rfl | rfl | rfl) <;> omega
theorem OfS.frame {w0 : World} {g ga n c base go : Nat} {bs : List UInt8} {k : Nat} {w w' : World} (h : OfS w0 g ga n c base go bs k w) (he : Ex (fun x => ¬ ofD w0 g ga go x) w w') : OfS w0 g ga n c base go bs k w' := by
  obtain ⟨i, q, hq⟩ := h.rdr
  obtain ⟨b, hb⟩ := h.blk
  exact ⟨h.old.trans (he.toBelow (fun x hx hn => hn (.inl hx)) h.old.size), ⟨i, q, he.keep hq (fun hn => hn (.inr (.inl rfl)))⟩, h.rd.ex he (fun hn => hn (.inr (.inr (.inl rfl)))), ⟨b, he.keep hb (fun hn => hn (.inr (.inr (.inr rfl))))⟩, h.len⟩

def ofR (g go gd o m cm : Nat) (off : Int) (j : Nat) (v : Value) (_ : World) : Prop :=
  match j with
  | 0 => v = .pointer (some ⟨go, 0, none⟩)
  | 1 => v = .pointer (some ⟨go, 0, none⟩)
  | 2 => v = .pointer (some ⟨go, 0, none⟩)
  | 3 => v = .iface 104 (.pointer (some ⟨g, 0, none⟩))
  | 4 => v = .slice (some ⟨gd, o, none⟩) m cm
  | 5 => v = .pointer (some ⟨go, 0, none⟩)
  | 6 => v = .pointer (some ⟨go, 0, none⟩)
  | 7 => v = .pointer (some ⟨go, 2, none⟩)
  | 8 => v = .int .i64 off
  | 10 => v = .iface 104 (.pointer (some ⟨g, 0, none⟩))
  | _ => True
def ofR' (j0 : Nat) (v0 : Value) (j : Nat) (v : Value) (_ : World) : Prop :=
  match j with
  | 11 => v = .tuple #[.int .i64 j0, v0]
  | 12 => v = .tuple #[.int .i64 j0, v0]
  | 13 => v = .int .i64 j0
  | 14 => v = v0
  | 15 => v = .int .i64 j0
  | 16 => v = v0
  | _ => True

set_option maxHeartbeats 4000000 in
set_option maxRecDepth 100000 in
/-- (*offsetReadSeeker).Read into a block of another's. -/
theorem offRead_calls (w0 : World) (g ga n c base go : Nat) (bs : List UInt8) (ve vu vo vn : Value) (he : RdErrs ve vu vo vn w0) (hg : w0.heap.size ≤ g) (hgo : w0.heap.size ≤ go) (hag : ga < g) (hgg : g < go) (hn : n ≤ 4611686018427387904) (hbase : base ≤ 9223372036854775807) (k : Nat) (w : World) (gd : Nat) (t : TypeId) (cs : Array Value) (o m cm : Nat) (hS : OfS w0 g ga n c base go bs k w) (hD : ¬ ofD w0 g ga go gd) (hd : w.heap[gd]? = some (.cells cs t (0, 0))) (hos : o + m ≤ cs.size) (hm0 : 0 < m) (hm : m ≤ 9223372036854775807) :
    Calls Tryz.prog 235 #[.pointer (some ⟨go, 0, none⟩), .slice (some ⟨gd, o, none⟩) m cm] w fun e w' => ∃ (j : Nat) (v : Value), j = min m ((bs.drop base).length - k) ∧ e = .returned (.tuple #[.int .i64 j, v]) ∧ ((v = .nilIface ∧ 0 < j) ∨ (v = ve ∧ j < m)) ∧ OfS w0 g ga n c base go bs (k + j) w' ∧ w'.heap[gd]? = some (.cells (putLs cs o (Lib.byteCells (((bs.drop base).drop k).take j))) t (0, 0)) ∧ Ex (fun x => x = go ∨ x = gd) w w' := by
  have hdr : Below w.heap.size w w.drew := bel_drew (Below.refl _ _)
  obtain ⟨hold, ⟨i, q, hq⟩, hrd, ⟨b, hb⟩, hlen⟩ := hS.frame (Ex.of_below hdr)
  have hd1 := blk_keep hd hdr
  have hE := (he.below hold).eof
  have hnD : ¬ gd < w0.heap.size ∧ g ≠ gd ∧ ga ≠ gd ∧ go ≠ gd := ⟨fun e => hD (.inl e), fun e => hD (.inr (.inl e.symm)), fun e => hD (.inr (.inr (.inl e.symm))), fun e => hD (.inr (.inr (.inr e.symm)))⟩
  have hEg : 0 < w0.heap.size := World.block_lt_of_cell? w0 _ he.eof
  have hl := hrd.len
  have hdl : (bs.drop base).length = n - base := by rw [List.length_drop, hl]
  obtain ⟨p, hp⟩ : ∃ p, p = base + k := ⟨_, rfl⟩
  rw [← hp] at hb
  have HA := Kp.mk (readAt_calls g ga gd n c o m cm i p q bs cs ve w.drew hq hrd ⟨hnD.2.1, hnD.2.2.1⟩ hd1 hos hm0 hm (by omega) hn hE (by omega))
  obtain ⟨Te, ue, rfl⟩ := he.eofE.iface
  have c0 : w.drew.cell? ⟨go, 0, none⟩ = some (.iface 104 (.pointer (some ⟨g, 0, none⟩))) := blk_cell hb 0
  have c2 : w.drew.cell? ⟨go, 2, none⟩ = some (.int .i64 p) := blk_cell hb 2
  have hm : ∀ W, (method 453 104 (.pointer (some ⟨g, 0, none⟩)) "ReadAt").run Tryz.prog W = .ok (225, .pointer (some ⟨g, 0, none⟩)) W := fun _ => by kernel_rfl
  have HB := Kp.mk (And.intro hb (And.intro hold (And.intro hrd hlen)))
  have HX := Kp.mk (And.intro hdl (And.intro hnD (And.intro hl (And.intro hag (And.intro hgg (And.intro hg (And.intro hgo hEg)))))))
  have HP := Kp.mk hp
  have hp63 : p ≤ 9223372036854775807 := by omega
  have HDR := Kp.mk hdr
  have HQN := Kp.mk (And.intro hm0 (And.intro hn hbase))
  clear he hg hgo hag hgg hn hbase hD hd hos hm0 hq hrd hb hlen hold hE hnD hEg hl hdl hS hd1 hdr hp
  go_enter Tryz.func235, Tryz.ntmps235
  go_wp2_with fail
  refine wp_region_growR (fun u u' => u = u') (fun _ => rfl) (fun _ _ _ h k => h.trans k) (by kernel_rfl) 11 (by decide) (apart_of (by kernel_rfl)) (by kernel_rfl) (ofR g go gd o m cm p) (fun _ _ _ _ => True) (fun _ _ _ _ h _ => by unfold ofR at *; exact h) ?_ ?_
  · intro j hj ob ho vs w2 hb hpre
    subst hb
    rcases j with _ | _ | _ | _ | _ | _ | _ | _ | _ | _ | _ | j
    · obtain rfl := Option.some.inj ho
      simp only [canon, List.range, List.range.loop, List.foldl]
      go_simp
      all_goals first | rfl | exact ⟨rfl, rfl⟩ | trivial
    · have e0 : vs 0 = _ := hpre 0 (by decide) (by obtain rfl := Option.some.inj ho; rfl)
      obtain rfl := Option.some.inj ho
      simp only [canon, List.range, List.range.loop, List.foldl]
      go_simp
      all_goals first | rfl | exact ⟨rfl, rfl⟩ | trivial
    · have e1 : vs 1 = _ := hpre 1 (by decide) (by obtain rfl := Option.some.inj ho; rfl)
      obtain rfl := Option.some.inj ho
      simp only [canon, List.range, List.range.loop, List.foldl]
      go_simp
      all_goals first | rfl | exact ⟨rfl, rfl⟩ | trivial
    · have e2 : vs 2 = _ := hpre 2 (by decide) (by obtain rfl := Option.some.inj ho; rfl)
      obtain rfl := Option.some.inj ho
      simp only [canon, List.range, List.range.loop, List.foldl]
      go_simp
      all_goals first | rfl | exact ⟨rfl, rfl⟩ | trivial
    · obtain rfl := Option.some.inj ho
      simp only [canon, List.range, List.range.loop, List.foldl]
      go_simp
      all_goals first | rfl | exact ⟨rfl, rfl⟩ | trivial
    · obtain rfl := Option.some.inj ho
      simp only [canon, List.range, List.range.loop, List.foldl]
      go_simp
      all_goals first | rfl | exact ⟨rfl, rfl⟩ | trivial
    · have e5 : vs 5 = _ := hpre 5 (by decide) (by obtain rfl := Option.some.inj ho; rfl)
      obtain rfl := Option.some.inj ho
      simp only [canon, List.range, List.range.loop, List.foldl]
      go_simp
      all_goals first | rfl | exact ⟨rfl, rfl⟩ | trivial
    · have e6 : vs 6 = _ := hpre 6 (by decide) (by obtain rfl := Option.some.inj ho; rfl)
      obtain rfl := Option.some.inj ho
      simp only [canon, List.range, List.range.loop, List.foldl]
      go_simp
      all_goals first | rfl | exact ⟨rfl, rfl⟩ | trivial
    · have e7 : vs 7 = _ := hpre 7 (by decide) (by obtain rfl := Option.some.inj ho; rfl)
      obtain rfl := Option.some.inj ho
      simp only [canon, List.range, List.range.loop, List.foldl]
      go_simp
      all_goals first | rfl | exact ⟨rfl, rfl⟩ | trivial
    · have e3 : vs 3 = _ := hpre 3 (by decide) (by obtain rfl := Option.some.inj ho; rfl)
      obtain rfl := Option.some.inj ho
      simp only [canon, List.range, List.range.loop, List.foldl]
      go_simp
      all_goals first | rfl | exact ⟨rfl, rfl⟩ | trivial
    · have e3 : vs 3 = _ := hpre 3 (by decide) (by obtain rfl := Option.some.inj ho; rfl)
      obtain rfl := Option.some.inj ho
      simp only [canon, List.range, List.range.loop, List.foldl]
      go_simp
      all_goals first | rfl | exact ⟨rfl, rfl⟩ | trivial
    · omega
  · intro vs w2 hb hr _
    subst hb
    have e4 : vs 4 = _ := hr 4 (by omega)
    have e8 : vs 8 = _ := hr 8 (by omega)
    have e10 : vs 10 = _ := hr 10 (by omega)
    simp only [canon, List.range, List.range.loop, List.foldl]
    refine wpAny_last 11 (by kernel_rfl) ?_
    refine wpOp_go rfl rfl ?_
    go_simp
    refine HA.out.mono ?_
    rintro e w1 ⟨j, v, hj, rfl, hv, h1, h2, h3⟩
    have HK := Kp.mk (And.intro hj (And.intro hv (And.intro h1 (And.intro h2 h3))))
    clear h1 h2 h3 hj hv HA
    refine wpAny_restR (fun u u' => u = u') (fun _ => rfl) (fun _ _ _ h k => h.trans k) 12 17 rfl (by decide) (apart_of (by kernel_rfl)) (by kernel_rfl) (ofR' j v) (fun _ _ _ _ h _ => by unfold ofR' at *; exact h) ?_ ?_ ?_
    · intro i hi
      rcases i with _ | _ | _ | _ | _ | _ | _ | _ | _ | _ | _ | _ | i
      all_goals first | trivial | rfl | omega
    · intro j hkj hj ob ho vs w2 hb hpre
      subst hb
      rcases j with _ | _ | _ | _ | _ | _ | _ | _ | _ | _ | _ | _ | _ | _ | _ | _ | _ | j
      iterate 12 (· omega)
      · have e11 : vs 11 = _ := hpre 11 (by decide) (by obtain rfl := Option.some.inj ho; rfl)
        obtain rfl := Option.some.inj ho
        simp only [canon, List.range, List.range.loop, List.foldl]
        go_simp
        all_goals first | rfl | exact ⟨rfl, rfl⟩ | trivial
      · have e12 : vs 12 = _ := hpre 12 (by decide) (by obtain rfl := Option.some.inj ho; rfl)
        obtain rfl := Option.some.inj ho
        simp only [canon, List.range, List.range.loop, List.foldl]
        go_simp
        all_goals first | rfl | exact ⟨rfl, rfl⟩ | trivial
      · have e12 : vs 12 = _ := hpre 12 (by decide) (by obtain rfl := Option.some.inj ho; rfl)
        obtain rfl := Option.some.inj ho
        simp only [canon, List.range, List.range.loop, List.foldl]
        go_simp
        all_goals first | rfl | exact ⟨rfl, rfl⟩ | trivial
      · have e13 : vs 13 = _ := hpre 13 (by decide) (by obtain rfl := Option.some.inj ho; rfl)
        obtain rfl := Option.some.inj ho
        simp only [canon, List.range, List.range.loop, List.foldl]
        go_simp
        all_goals first | rfl | exact ⟨rfl, rfl⟩ | trivial
      · have e14 : vs 14 = _ := hpre 14 (by decide) (by obtain rfl := Option.some.inj ho; rfl)
        obtain rfl := Option.some.inj ho
        simp only [canon, List.range, List.range.loop, List.foldl]
        go_simp
        all_goals first | rfl | exact ⟨rfl, rfl⟩ | trivial
      · omega
    · intro vs w2 hb hr
      subst hb
      have e12 : vs 12 = _ := hr 12 (by omega)
      have e13 : vs 13 = _ := hr 13 (by omega)
      have e14 : vs 14 = _ := hr 14 (by omega)
      have e15 : vs 15 = _ := hr 15 (by omega)
      have e16 : vs 16 = _ := hr 16 (by omega)
      simp only [canon, List.range, List.range.loop, List.foldl]
      rw [e12, e13, e14, e15, e16]
      have hjp : p + j ≤ 9223372036854775807 := by have h1 := HK.out.1; have h2 := HQN.out.2.1; omega
      have hgo1 : w1.heap[go]? = some (.cells (offCs g base p b) 158 (0, 0)) := HK.out.2.2.2.2.keep HB.out.1 (by show ¬ go = gd; exact HX.out.2.1.2.2.2)
      have c2 : w1.cell? ⟨go, 2, none⟩ = some (.int .i64 p) := blk_cell hgo1 2
      have f2 : w1.frozen? ⟨go, 2, none⟩ = false := blk_frozen hgo1 2
      have HW := Kp.mk hgo1
      have q1 : decide ((p : Int) + (j : Int) < (p : Int)) = false := decide_eq_false (by omega)
      clear hgo1 hr e4 e8 e10
      go_wp2_with fail
      go_ret2
      have hx2 : Ex (fun x => x = go ∨ x = gd) w.drew w1 := HK.out.2.2.2.2.mono (fun x hx => .inr hx)
      have hx3 : Ex (fun x => x = go ∨ x = gd) w.drew (w1.setCell ⟨go, 2, none⟩ (.int .i64 ((p : Int) + (j : Int)))) := hx2.setCell (p := ⟨go, 2, none⟩) (.inl rfl) _
      have hgd := HX.out.2.1
      refine ⟨j, v, ?_, rfl, ?_, ⟨HB.out.2.1.trans (hx3.toBelow (fun x hx hn => ?_) HB.out.2.1.size), ⟨i, q, ?_⟩, ?_, ⟨b, ?_⟩, ?_⟩, ?_, (Ex.of_below HDR.out).trans hx3⟩
      · have h1 := HK.out.1; have h2 := HX.out.1; have h3 := HP.out; omega
      · rcases HK.out.2.1 with ⟨h1, h2⟩ | h1
        · exact .inl ⟨h1, by have := HQN.out.1; omega⟩
        · exact .inr h1
      · have h1 := HX.out.2.2.2.2.2.2.1; rcases hn with rfl | rfl <;> omega
      · exact blk_far (p := ⟨go, 2, none⟩) HK.out.2.2.1 (by show g ≠ go; have := HX.out.2.2.2.2.1; omega) _
      · exact HB.out.2.2.1.ex hx3 (by have h1 := HX.out.2.2.2.1; have h2 := HX.out.2.2.2.2.1; rintro (e | e) <;> omega)
      · have h1 := blk_set HW.out 2 (.int .i64 ((p : Int) + (j : Int)))
        rw [h1, HP.out, show base + (k + j) = base + k + j by omega]
        rfl
      · have h1 := HK.out.1; have h2 := HX.out.1; have h3 := HP.out; have h4 := HB.out.2.2.2; omega
      · have h1 := blk_far (p := ⟨go, 2, none⟩) HK.out.2.2.2.1 (by show gd ≠ go; exact fun e => hgd.2.2.2 e.symm) (.int .i64 ((p : Int) + (j : Int)))
        rw [h1, List.drop_drop, ← HP.out]

def ofQ (g go : Nat) (off : Int) (j : Nat) (v : Value) (_ : World) : Prop :=
  match j with
  | 0 => v = .pointer (some ⟨go, 0, none⟩)
  | 1 => v = .pointer (some ⟨go, 0, none⟩)
  | 2 => v = .pointer (some ⟨go, 0, none⟩)
  | 3 => v = .iface 104 (.pointer (some ⟨g, 0, none⟩))
  | 4 => v = .slice (some ⟨go, 3, none⟩) 1 1
  | 5 => v = .pointer (some ⟨go, 0, none⟩)
  | 6 => v = .pointer (some ⟨go, 0, none⟩)
  | 7 => v = .pointer (some ⟨go, 2, none⟩)
  | 8 => v = .int .i64 off
  | 10 => v = .iface 104 (.pointer (some ⟨g, 0, none⟩))
  | _ => True
def ofQ' (j0 : Nat) (v0 : Value) (j : Nat) (v : Value) (_ : World) : Prop :=
  match j with
  | 11 => v = .tuple #[.int .i64 j0, v0]
  | 12 => v = .tuple #[.int .i64 j0, v0]
  | 13 => v = .int .i64 j0
  | 14 => v = v0
  | 15 => v = .int .i64 j0
  | 16 => v = v0
  | _ => True

set_option maxHeartbeats 4000000 in
set_option maxRecDepth 100000 in
/-- (*offsetReadSeeker).Read into its own one byte. -/
theorem offReadQ_calls (w0 : World) (g ga n c base go : Nat) (bs : List UInt8) (ve vu vo vn : Value) (he : RdErrs ve vu vo vn w0) (hg : w0.heap.size ≤ g) (hgo : w0.heap.size ≤ go) (hag : ga < g) (hgg : g < go) (hn : n ≤ 4611686018427387904) (hbase : base ≤ 9223372036854775807) (k : Nat) (w : World) (hS : OfS w0 g ga n c base go bs k w) :
    Calls Tryz.prog 235 #[.pointer (some ⟨go, 0, none⟩), .slice (some ⟨go, 3, none⟩) 1 1] w fun e w' => ∃ (j : Nat) (v : Value), j = min 1 ((bs.drop base).length - k) ∧ e = .returned (.tuple #[.int .i64 j, v]) ∧ ((v = .nilIface ∧ 0 < j) ∨ (v = ve ∧ j < 1)) ∧ OfS w0 g ga n c base go bs (k + j) w' ∧ (∀ x, (bs.drop base)[k]? = some x → w'.cell? ⟨go, 3, none⟩ = some (.int .u8 (x.toNat : Nat))) ∧ Ex (fun x => x = go) w w' := by
  have hdr : Below w.heap.size w w.drew := bel_drew (Below.refl _ _)
  obtain ⟨hold, ⟨i, q, hq⟩, hrd, ⟨b, hb⟩, hlen⟩ := hS.frame (Ex.of_below hdr)
  have hE := (he.below hold).eof
  have hEg : 0 < w0.heap.size := World.block_lt_of_cell? w0 _ he.eof
  have hl := hrd.len
  have hdl : (bs.drop base).length = n - base := by rw [List.length_drop, hl]
  obtain ⟨p, hp⟩ : ∃ p, p = base + k := ⟨_, rfl⟩
  rw [← hp] at hb
  have HA := Kp.mk (readAt_calls g ga go n c 3 1 1 i p q bs (offCs g base p b) ve w.drew hq hrd ⟨by omega, by omega⟩ hb (Nat.le_refl 4) (by omega) (by omega) (by omega) hn hE (by omega))
  obtain ⟨Te, ue, rfl⟩ := he.eofE.iface
  have c0 : w.drew.cell? ⟨go, 0, none⟩ = some (.iface 104 (.pointer (some ⟨g, 0, none⟩))) := blk_cell hb 0
  have c2 : w.drew.cell? ⟨go, 2, none⟩ = some (.int .i64 p) := blk_cell hb 2
  have hm : ∀ W, (method 453 104 (.pointer (some ⟨g, 0, none⟩)) "ReadAt").run Tryz.prog W = .ok (225, .pointer (some ⟨g, 0, none⟩)) W := fun _ => by kernel_rfl
  have HB := Kp.mk (And.intro hb (And.intro hold (And.intro hrd hlen)))
  have HX := Kp.mk (And.intro hdl (And.intro trivial (And.intro hl (And.intro hag (And.intro hgg (And.intro hg (And.intro hgo hEg)))))))
  have HP := Kp.mk hp
  have hp63 : p ≤ 9223372036854775807 := by omega
  have HDR := Kp.mk hdr
  have HQN := Kp.mk (And.intro trivial (And.intro hn hbase))
  clear he hg hgo hag hgg hn hbase hq hrd hb hlen hold hE hEg hl hdl hS hdr hp
  go_enter Tryz.func235, Tryz.ntmps235
  go_wp2_with fail
  refine wp_region_growR (fun u u' => u = u') (fun _ => rfl) (fun _ _ _ h k => h.trans k) (by kernel_rfl) 11 (by decide) (apart_of (by kernel_rfl)) (by kernel_rfl) (ofQ g go p) (fun _ _ _ _ => True) (fun _ _ _ _ h _ => by unfold ofQ at *; exact h) ?_ ?_
  · intro j hj ob ho vs w2 hb hpre
    subst hb
    rcases j with _ | _ | _ | _ | _ | _ | _ | _ | _ | _ | _ | j
    · obtain rfl := Option.some.inj ho
      simp only [canon, List.range, List.range.loop, List.foldl]
      go_simp
      all_goals first | rfl | exact ⟨rfl, rfl⟩ | trivial
    · have e0 : vs 0 = _ := hpre 0 (by decide) (by obtain rfl := Option.some.inj ho; rfl)
      obtain rfl := Option.some.inj ho
      simp only [canon, List.range, List.range.loop, List.foldl]
      go_simp
      all_goals first | rfl | exact ⟨rfl, rfl⟩ | trivial
    · have e1 : vs 1 = _ := hpre 1 (by decide) (by obtain rfl := Option.some.inj ho; rfl)
      obtain rfl := Option.some.inj ho
      simp only [canon, List.range, List.range.loop, List.foldl]
      go_simp
      all_goals first | rfl | exact ⟨rfl, rfl⟩ | trivial
    · have e2 : vs 2 = _ := hpre 2 (by decide) (by obtain rfl := Option.some.inj ho; rfl)
      obtain rfl := Option.some.inj ho
      simp only [canon, List.range, List.range.loop, List.foldl]
      go_simp
      all_goals first | rfl | exact ⟨rfl, rfl⟩ | trivial
    · obtain rfl := Option.some.inj ho
      simp only [canon, List.range, List.range.loop, List.foldl]
      go_simp
      all_goals first | rfl | exact ⟨rfl, rfl⟩ | trivial
    · obtain rfl := Option.some.inj ho
      simp only [canon, List.range, List.range.loop, List.foldl]
      go_simp
      all_goals first | rfl | exact ⟨rfl, rfl⟩ | trivial
    · have e5 : vs 5 = _ := hpre 5 (by decide) (by obtain rfl := Option.some.inj ho; rfl)
      obtain rfl := Option.some.inj ho
      simp only [canon, List.range, List.range.loop, List.foldl]
      go_simp
      all_goals first | rfl | exact ⟨rfl, rfl⟩ | trivial
    · have e6 : vs 6 = _ := hpre 6 (by decide) (by obtain rfl := Option.some.inj ho; rfl)
      obtain rfl := Option.some.inj ho
      simp only [canon, List.range, List.range.loop, List.foldl]
      go_simp
      all_goals first | rfl | exact ⟨rfl, rfl⟩ | trivial
    · have e7 : vs 7 = _ := hpre 7 (by decide) (by obtain rfl := Option.some.inj ho; rfl)
      obtain rfl := Option.some.inj ho
      simp only [canon, List.range, List.range.loop, List.foldl]
      go_simp
      all_goals first | rfl | exact ⟨rfl, rfl⟩ | trivial
    · have e3 : vs 3 = _ := hpre 3 (by decide) (by obtain rfl := Option.some.inj ho; rfl)
      obtain rfl := Option.some.inj ho
      simp only [canon, List.range, List.range.loop, List.foldl]
      go_simp
      all_goals first | rfl | exact ⟨rfl, rfl⟩ | trivial
    · have e3 : vs 3 = _ := hpre 3 (by decide) (by obtain rfl := Option.some.inj ho; rfl)
      obtain rfl := Option.some.inj ho
      simp only [canon, List.range, List.range.loop, List.foldl]
      go_simp
      all_goals first | rfl | exact ⟨rfl, rfl⟩ | trivial
    · omega
  · intro vs w2 hb hr _
    subst hb
    have e4 : vs 4 = _ := hr 4 (by omega)
    have e8 : vs 8 = _ := hr 8 (by omega)
    have e10 : vs 10 = _ := hr 10 (by omega)
    simp only [canon, List.range, List.range.loop, List.foldl]
    refine wpAny_last 11 (by kernel_rfl) ?_
    refine wpOp_go rfl rfl ?_
    go_simp
    refine HA.out.mono ?_
    rintro e w1 ⟨j, v, hj, rfl, hv, h1, h2, h3⟩
    have HK := Kp.mk (And.intro hj (And.intro hv (And.intro h1 (And.intro h2 h3))))
    clear h1 h2 h3 hj hv HA
    refine wpAny_restR (fun u u' => u = u') (fun _ => rfl) (fun _ _ _ h k => h.trans k) 12 17 rfl (by decide) (apart_of (by kernel_rfl)) (by kernel_rfl) (ofQ' j v) (fun _ _ _ _ h _ => by unfold ofQ' at *; exact h) ?_ ?_ ?_
    · intro i hi
      rcases i with _ | _ | _ | _ | _ | _ | _ | _ | _ | _ | _ | _ | i
      all_goals first | trivial | rfl | omega
    · intro j hkj hj ob ho vs w2 hb hpre
      subst hb
      rcases j with _ | _ | _ | _ | _ | _ | _ | _ | _ | _ | _ | _ | _ | _ | _ | _ | _ | j
      iterate 12 (· omega)
      · have e11 : vs 11 = _ := hpre 11 (by decide) (by obtain rfl := Option.some.inj ho; rfl)
        obtain rfl := Option.some.inj ho
        simp only [canon, List.range, List.range.loop, List.foldl]
        go_simp
        all_goals first | rfl | exact ⟨rfl, rfl⟩ | trivial
      · have e12 : vs 12 = _ := hpre 12 (by decide) (by obtain rfl := Option.some.inj ho; rfl)
        obtain rfl := Option.some.inj ho
        simp only [canon, List.range, List.range.loop, List.foldl]
        go_simp
        all_goals first | rfl | exact ⟨rfl, rfl⟩ | trivial
      · have e12 : vs 12 = _ := hpre 12 (by decide) (by obtain rfl := Option.some.inj ho; rfl)
        obtain rfl := Option.some.inj ho
        simp only [canon, List.range, List.range.loop, List.foldl]
        go_simp
        all_goals first | rfl | exact ⟨rfl, rfl⟩ | trivial
      · have e13 : vs 13 = _ := hpre 13 (by decide) (by obtain rfl := Option.some.inj ho; rfl)
        obtain rfl := Option.some.inj ho
        simp only [canon, List.range, List.range.loop, List.foldl]
        go_simp
        all_goals first | rfl | exact ⟨rfl, rfl⟩ | trivial
      · have e14 : vs 14 = _ := hpre 14 (by decide) (by obtain rfl := Option.some.inj ho; rfl)
        obtain rfl := Option.some.inj ho
        simp only [canon, List.range, List.range.loop, List.foldl]
        go_simp
        all_goals first | rfl | exact ⟨rfl, rfl⟩ | trivial
      · omega
    · intro vs w2 hb hr
      subst hb
      have e12 : vs 12 = _ := hr 12 (by omega)
      have e13 : vs 13 = _ := hr 13 (by omega)
      have e14 : vs 14 = _ := hr 14 (by omega)
      have e15 : vs 15 = _ := hr 15 (by omega)
      have e16 : vs 16 = _ := hr 16 (by omega)
      simp only [canon, List.range, List.range.loop, List.foldl]
      rw [e12, e13, e14, e15, e16]
      have hjp : p + j ≤ 9223372036854775807 := by have h1 := HK.out.1; have h2 := HQN.out.2.1; omega
      obtain ⟨b', hb'⟩ : ∃ b' : Nat, w1.heap[go]? = some (.cells (offCs g base p b') 158 (0, 0)) ∧ (∀ x, bs[p]? = some x → b' = x.toNat) := by
        have h4 := HK.out.2.2.2.1
        cases hx : bs[p]? with
        | none =>
          have hz : j = 0 := by have h1 := HK.out.1; have h2 := HX.out.2.2.1; rw [List.getElem?_eq_none_iff] at hx; omega
          rw [hz] at h4
          exact ⟨b, h4, by intro x h; cases h⟩
        | some x =>
          have hlt : p < bs.length := (List.getElem?_eq_some_iff.1 hx).1
          have hz : j = 1 := by have h1 := HK.out.1; have h2 := HX.out.2.2.1; omega
          have hd1 : (bs.drop p).take 1 = [x] := by rw [List.drop_eq_getElem_cons hlt, ← Option.some.inj ((List.getElem?_eq_getElem hlt).symm.trans hx)]; rfl
          rw [hz, hd1] at h4
          exact ⟨x.toNat, h4, by intro y h; rw [Option.some.inj h]⟩
      obtain ⟨hgo1, hbx⟩ := hb'
      have c2 : w1.cell? ⟨go, 2, none⟩ = some (.int .i64 p) := blk_cell hgo1 2
      have f2 : w1.frozen? ⟨go, 2, none⟩ = false := blk_frozen hgo1 2
      have HW := Kp.mk (And.intro hgo1 hbx)
      have q1 : decide ((p : Int) + (j : Int) < (p : Int)) = false := decide_eq_false (by omega)
      clear hgo1 hbx hr e4 e8 e10
      go_wp2_with fail
      go_ret2
      have hx3 : Ex (fun x => x = go) w.drew (w1.setCell ⟨go, 2, none⟩ (.int .i64 ((p : Int) + (j : Int)))) := HK.out.2.2.2.2.setCell (p := ⟨go, 2, none⟩) rfl _
      have h1 := blk_set HW.out.1 2 (.int .i64 ((p : Int) + (j : Int)))
      refine ⟨j, v, ?_, rfl, ?_, ⟨HB.out.2.1.trans (hx3.toBelow (fun x hx hn => ?_) HB.out.2.1.size), ⟨i, q, ?_⟩, ?_, ⟨b', ?_⟩, ?_⟩, ?_, (Ex.of_below HDR.out).trans hx3⟩
      · have h1 := HK.out.1; have h2 := HX.out.1; have h3 := HP.out; omega
      · rcases HK.out.2.1 with ⟨h1, h2⟩ | h1
        · exact .inl ⟨h1, by omega⟩
        · exact .inr h1
      · have h1 := HX.out.2.2.2.2.2.2.1; omega
      · exact blk_far (p := ⟨go, 2, none⟩) HK.out.2.2.1 (by show g ≠ go; have := HX.out.2.2.2.2.1; omega) _
      · exact HB.out.2.2.1.ex hx3 (by have h1 := HX.out.2.2.2.1; have h2 := HX.out.2.2.2.2.1; intro e; omega)
      · rw [h1, HP.out, show base + (k + j) = base + k + j by omega]
        rfl
      · have h1 := HK.out.1; have h2 := HX.out.1; have h3 := HP.out; have h4 := HB.out.2.2.2; omega
      · intro x hx
        rw [List.getElem?_drop, ← HP.out] at hx
        rw [blk_cell h1 3, HW.out.2 x hx]
        rfl

end Go.Proofs.YtkcpgcaccgahaaaGreatDoor
namespace Go.Proofs.YtkcpgcaccgahaaaGreatDoor
open Go.RowKit

set_option maxHeartbeats 4000000 in
set_option maxRecDepth 100000 in
/-- (*offsetReadSeeker).ReadByte. -/
theorem offByte_calls (w0 : World) (g ga n c base go : Nat) (bs : List UInt8) (ve vu vo vn : Value) (he : RdErrs ve vu vo vn w0) (hg : w0.heap.size ≤ g) (hgo : w0.heap.size ≤ go) (hag : ga < g) (hgg : g < go) (hn : n ≤ 4611686018427387904) (hbase : base ≤ 9223372036854775807) (k : Nat) (w : World) (hS : OfS w0 g ga n c base go bs k w) :
    Calls Tryz.prog 237 #[.pointer (some ⟨go, 0, none⟩)] w fun e w' => (match (bs.drop base)[k]? with | some x => e = .returned (.tuple #[.int .u8 (x.toNat : Int), .nilIface]) ∧ OfS w0 g ga n c base go bs (k + 1) w' | none => (∃ z : Int, e = .returned (.tuple #[.int .u8 z, ve])) ∧ OfS w0 g ga n c base go bs k w') ∧ Ex (fun x => x = go) w w' := by
  have HR := Kp.mk (fun w1 h1 => offReadQ_calls w0 g ga n c base go bs ve vu vo vn he hg hgo hag hgg hn hbase k w1 h1)
  have HS := Kp.mk hS
  obtain ⟨Te, ue, rfl⟩ := he.eofE.iface
  clear he hg hgo hag hgg hn hbase hS
  cases hx : (bs.drop base)[k]? with
  | some x =>
    have HXX := Kp.mk hx
    clear hx
    go_enter Tryz.func237, Tryz.ntmps237
    go_wp2_with fail
    refine (HR.out w HS.out).mono ?_
    rintro e w1 ⟨j, v, hj, rfl, hv, h1, h2, h3⟩
    have hlt := (List.getElem?_eq_some_iff.1 HXX.out).1
    have c3 := h2 x HXX.out
    obtain rfl : j = 1 := by omega
    obtain rfl : v = .nilIface := by rcases hv with h | h; exact h.1; omega
    have HE := Kp.mk (And.intro h1 h3)
    clear hj hv h1 h2 h3 hlt HR HS
    go_wp2_with fail
    go_ret2
    exact ⟨⟨rfl, HE.out.1⟩, HE.out.2⟩
  | none =>
    have HXX := Kp.mk (List.getElem?_eq_none_iff.1 hx)
    clear hx
    go_enter Tryz.func237, Tryz.ntmps237
    go_wp2_with fail
    refine (HR.out w HS.out).mono ?_
    rintro e w1 ⟨j, v, hj, rfl, hv, h1, h2, h3⟩
    obtain rfl : j = 0 := by have := HXX.out; omega
    obtain rfl : v = .iface Te ue := by rcases hv with h | h; omega; exact h.1
    obtain ⟨b, hb⟩ := h1.blk
    have c3 : w1.cell? ⟨go, 3, none⟩ = some (.int .u8 b) := blk_cell hb 3
    have HE := Kp.mk (And.intro h1 h3)
    clear hj hv h1 h2 h3 HR HS hb
    go_wp2_with fail
    go_ret2
    exact ⟨⟨⟨_, rfl⟩, HE.out.1⟩, HE.out.2⟩

/-- An offsetReadSeeker as a reader. -/
theorem srcO (w0 : World) (g ga n c base go : Nat) (bs : List UInt8) (ve vu vo vn : Value) (he : RdErrs ve vu vo vn w0) (hg : w0.heap.size ≤ g) (hgo : w0.heap.size ≤ go) (hag : ga < g) (hgg : g < go) (hn : n ≤ 4611686018427387904) (hbase : base ≤ 9223372036854775807) :
    Src 154 (.pointer (some ⟨go, 0, none⟩)) 235 (bs.drop base) ve vu vo vn (· = go) (ofD w0 g ga go) (OfS w0 g ga n c base go bs) := by
  refine ⟨fun _ => by kernel_rfl, fun _ => by kernel_rfl, enters_of Tryz.func235 (by kernel_rfl) rfl, ?_, fun k w w' h hx => h.frame hx, fun k w h => he.below h.old, fun k w h => h.lt hag, fun x hx => .inr (.inr (.inr hx))⟩
  intro k w gd t cs o m cm hS hD hd hos hmc hm0 hm
  exact offRead_calls w0 g ga n c base go bs ve vu vo vn he hg hgo hag hgg hn hbase k w gd t cs o m cm hS hD hd hos hm0 hm
theorem bytO (w0 : World) (g ga n c base go : Nat) (bs : List UInt8) (ve vu vo vn : Value) (he : RdErrs ve vu vo vn w0) (hg : w0.heap.size ≤ g) (hgo : w0.heap.size ≤ go) (hag : ga < g) (hgg : g < go) (hn : n ≤ 4611686018427387904) (hbase : base ≤ 9223372036854775807) :
    Byt 154 (.pointer (some ⟨go, 0, none⟩)) 237 (bs.drop base) ve (· = go) (OfS w0 g ga n c base go bs) := by
  refine ⟨fun _ => by kernel_rfl, enters_of Tryz.func237 (by kernel_rfl) rfl, ?_, ?_⟩
  · intro k w b hS hb
    refine (offByte_calls w0 g ga n c base go bs ve vu vo vn he hg hgo hag hgg hn hbase k w hS).mono ?_
    rintro e w' ⟨h1, h2⟩
    rw [hb] at h1
    exact ⟨h1.1, h1.2, h2⟩
  · intro k w hS hb
    refine (offByte_calls w0 g ga n c base go bs ve vu vo vn he hg hgo hag hgg hn hbase k w hS).mono ?_
    rintro e w' ⟨h1, h2⟩
    rw [hb] at h1
    exact ⟨h1.1, h1.2, h2⟩

set_option maxHeartbeats 800000 in
set_option maxRecDepth 100000 in
theorem toByteO_calls (p : Value) (w : World) :
    Calls Tryz.prog 120 #[.iface 154 p] w fun e w' => e = .returned (.iface 154 p) ∧ w = w' := by
  have hta : ∀ W, (Instr.typeAssert (.iface 154 p) 95 224 true).run Tryz.prog W = .ok (.tuple #[.iface 154 p, .bool true]) W := fun _ => by kernel_rfl
  go_enter Tryz.func120, Tryz.ntmps120
  go_wp2
  go_ret
  exact ⟨rfl, rfl⟩
/-- An offsetReadSeeker is a reader of bytes already. -/
theorem toBytO (w0 w : World) (g ga n c base go : Nat) (bs : List UInt8) (ve vu vo vn : Value) (he : RdErrs ve vu vo vn w0) (hg : w0.heap.size ≤ g) (hgo : w0.heap.size ≤ go) (hag : ga < g) (hgg : g < go) (hn : n ≤ 4611686018427387904) (hbase : base ≤ 9223372036854775807) (hS : OfS w0 g ga n c base go bs 0 w) :
    ToByt 154 (.pointer (some ⟨go, 0, none⟩)) 154 (.pointer (some ⟨go, 0, none⟩)) 237 (bs.drop base) ve vu vo vn (· = go) (OfS w0 g ga n c base go bs) (OfS w0 g ga n c base go bs) w :=
  ⟨(toByteO_calls _ w).mono (by rintro e w' ⟨rfl, rfl⟩; exact ⟨rfl, hS, Below.refl _ _⟩), fun w1 => byteRdr_byt (srcO w0 g ga n c base go bs ve vu vo vn he hg hgo hag hgg hn hbase) (bytO w0 g ga n c base go bs ve vu vo vn he hg hgo hag hgg hn hbase) w1, fun _ _ h => h⟩

end Go.Proofs.YtkcpgcaccgahaaaGreatDoor
namespace Go.Proofs.YtkcpgcaccgahaaaGreatDoor
open Go.RowKit

set_option maxHeartbeats 4000000 in
set_option maxRecDepth 100000 in
/-- internalio.NewOffsetReadSeeker. -/
theorem newOff_calls (g : Nat) (off : Int) (w : World) :
    Calls Tryz.prog 48 #[.iface 104 (.pointer (some ⟨g, 0, none⟩)), .int .i64 off] w fun e w' => e = .returned (.tuple #[.iface 154 (.pointer (some ⟨w.heap.size, 0, none⟩)), .nilIface]) ∧ w'.heap[w.heap.size]? = some (.cells #[.iface 104 (.pointer (some ⟨g, 0, none⟩)), .int .i64 off, .int .i64 off, .int .u8 0] 158 (0, 0)) ∧ Below w.heap.size w w' := by
  have HN := Kp.mk (fun o => blk_new (w := w) (o := o) (Below.refl _ _))
  have HB := Kp.mk (fun o => bel_alloc (Below.refl w.heap.size w) o)
  have hta : ∀ W, (Instr.typeAssert (.iface 104 (.pointer (some ⟨g, 0, none⟩))) 84 154 true).run Tryz.prog W = .ok (.tuple #[.pointer none, .bool false]) W := fun _ => by kernel_rfl
  go_enter Tryz.func48, Tryz.ntmps48
  go_wp2_with fail
  go_ret2
  exact ⟨rfl, HN.out _, HB.out _⟩

/-- The end of a section of n bytes at off. -/
def secLim (off n : Int) : Int := if off ≤ 9223372036854775807 - n then n + off else 9223372036854775807
set_option maxHeartbeats 4000000 in
set_option maxRecDepth 100000 in
/-- io.NewSectionReader. -/
theorem newSec_calls (g : Nat) (off n : Int) (h0 : 0 ≤ off ∧ off ≤ 9223372036854775807) (h1 : 0 ≤ n ∧ n ≤ 9223372036854775807) (w : World) :
    Calls Tryz.prog 47 #[.iface 104 (.pointer (some ⟨g, 0, none⟩)), .int .i64 off, .int .i64 n] w fun e w' => e = .returned (.pointer (some ⟨w.heap.size, 0, none⟩)) ∧ w'.heap[w.heap.size]? = some (.cells #[.iface 104 (.pointer (some ⟨g, 0, none⟩)), .int .i64 off, .int .i64 off, .int .i64 (secLim off n), .int .i64 n] 153 (0, 0)) ∧ Below w.heap.size w w' := by
  have HN := Kp.mk (fun o => blk_new (w := w) (o := o) (Below.refl _ _))
  have HB := Kp.mk (fun o => bel_alloc (Below.refl w.heap.size w) o)
  have hw : wrap64 (9223372036854775807 - n) = 9223372036854775807 - n := by unfold wrap64; omega
  by_cases hc : off ≤ 9223372036854775807 - n
  · have hw2 : wrap64 (n + off) = n + off := by unfold wrap64; omega
    have HL : Kp (secLim off n = n + off) := ⟨if_pos hc⟩
    go_enter Tryz.func47, Tryz.ntmps47
    go_wp2_with fail
    go_ret
    rw [HL.out]
    exact ⟨rfl, HN.out _, HB.out _⟩
  · have HL : Kp (secLim off n = 9223372036854775807) := ⟨if_neg hc⟩
    go_enter Tryz.func47, Tryz.ntmps47
    go_wp2_with fail
    go_ret
    rw [HL.out]
    exact ⟨rfl, HN.out _, HB.out _⟩

end Go.Proofs.YtkcpgcaccgahaaaGreatDoor
