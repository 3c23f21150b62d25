/- The walks of the reading of a header of version 2 over a reader by its interface. Printed by gen-hdrds.py. -/
import Derived.Test.YtkcpgcaccgahaaaGreatDoorSrcB
import Derived.Test.YtkcpgcaccgahaaaGreatDoorRdHeadA
namespace Go.Proofs.YtkcpgcaccgahaaaGreatDoor
open Go.RowKit

/-- What operations 0 to 6 of 'c.field = LittleEndian.Uint64(buf[lo:lo+8])' leave; the header lies within block h. -/
def chS (h k gd lo x : Nat) (j : Nat) (v : Value) (_ : World) : Prop :=
  match j with
  | 0 => v = .pointer (some ⟨h, 0, none⟩)
  | 1 => v = .agg #[]
  | 2 => v = .slice (some ⟨gd, 0, none⟩) 16 16
  | 3 => v = .slice (some ⟨gd, lo, none⟩) 8 (16 - lo)
  | 4 => v = .int .u64 x
  | 5 => v = .pointer (some ⟨h, 0, none⟩)
  | 6 => v = .pointer (some ⟨h, k, none⟩)
  | _ => True
theorem blk_has {w : World} {g : Nat} {t : TypeId} {cs : Array Value} (h : w.heap[g]? = some (.cells cs t (0, 0))) (i : Nat) (hi : i < cs.size) : ∃ v, w.cell? ⟨g, i, none⟩ = some v := ⟨cs[i], by rw [blk_cell h, Array.getElem?_eq_getElem hi]⟩
theorem Ex.set {P : Nat → Prop} {w W : World} (h : Ex P w W) (g i : Nat) (hp : P g) (u : Value) : Ex P w (W.setCell ⟨g, i, none⟩ u) := h.setCell (p := ⟨g, i, none⟩) hp u

set_option maxHeartbeats 8000000 in
set_option maxRecDepth 100000 in
/-- (*Characteristics).ReadFrom. -/
theorem chReadS_calls (T : TypeId) (pv : Value) (fr : FuncId) (bs : List UInt8) (ve vu vo vn : Value) (O D : Nat → Prop) (S : Nat → World → Prop) (H : Src T pv fr bs ve vu vo vn O D S) (k h : Nat) (tt : TypeId) (cs : Array Value) (w : World) (hS : S k w) (hh : w.heap[h]? = some (.cells cs tt (0, 0))) (h5 : 5 ≤ cs.size) (hD : ¬ D h) (hav : k + 16 ≤ bs.length) :
    Calls Tryz.prog 117 #[.pointer (some ⟨h, 0, none⟩), .iface T pv] w fun e' w' => e' = .returned (.tuple #[.int .i64 16, .nilIface]) ∧ S (k + 16) w' ∧ w'.heap[h]? = some (.cells ((cs.setIfInBounds 0 (.int .u64 (leAt k bs))).setIfInBounds 1 (.int .u64 (leAt (k + 8) bs))) tt (0, 0)) ∧ Ex (fun x => O x ∨ x = h) w w' := by
  have hmk : ∀ W : World, (Instr.makeSlice 67 (.int .i64 16) (.int .i64 16)).run Tryz.prog W = .ok (.slice (some ⟨W.heap.size, 0, none⟩) 16 16) (W.alloc (.cells (zeros 16) 5)) := fun W => mk_bytes 67 Tryz.underlying67 16 (by omega) W
  have HH := Kp.mk H
  have HG := Kp.mk (And.intro hS hh)
  have HX := Kp.mk (And.intro h5 (And.intro hD hav))
  clear H hS hh h5 hD hav
  go_enter Tryz.func117, Tryz.ntmps117
  go_wp2_with fail
  have hlt : h < w.heap.size := (Array.getElem?_eq_some_iff.1 HG.out.2).1
  generalize hW : w.alloc _ = W
  have hbW : Below w.heap.size w W := by rw [← hW]; exact bel_alloc (Below.refl _ _) _
  have hdW : W.heap[w.heap.size]? = some (.cells (zeros 16) 5 (0, 0)) := by rw [← hW]; simp [World.alloc, -World.alloc_eq]
  have hnD : ¬ D w.heap.size := fun hd => Nat.lt_irrefl _ (HH.out.old _ _ HG.out.1 _ hd)
  have hRF := fullS_calls T pv fr bs ve vu vo vn O D S HH.out k W w.heap.size 5 (zeros 16) 0 16 16 (HH.out.below HG.out.1 hbW) hnD hdW (by rw [zeros_size]; omega) (Nat.le_refl _) (by omega) (by omega)
  have hj : min 16 (bs.length - k) = 16 := by have := HX.out.2.2; omega
  have hv : rfV 16 (bs.length - k) ve vu = .nilIface := if_pos (by have := HX.out.2.2; omega)
  refine hRF.mono ?_
  rintro e1 w1 ⟨rfl, h1, h2, h3⟩
  rw [hj] at h1 h2
  rw [hj, hv]
  have hlen : ((bs.drop k).take 16).length = 16 := by rw [List.length_take, List.length_drop]; have := HX.out.2.2; omega
  have hrd := rd_put (cm := 16) h2 (by rw [zeros_size, hlen]; omega) (by omega) (by omega)
  rw [hlen] at hrd
  have hx1 : Ex (fun x => O x ∨ x = h) w w1 := Ex.new hbW h3 (fun x hx hq => hq.elim .inl (fun e => absurd hx (by omega)))
  have hh1 : w1.heap[h]? = some (.cells cs tt (0, 0)) := h3.keep (blk_keep HG.out.2 hbW) (fun hq => hq.elim (fun ho => HX.out.2.1 (HH.out.own _ ho)) (fun e => by omega))
  have HK1 := Kp.mk (And.intro h1 (And.intro hrd (And.intro hh1 hx1)))
  obtain ⟨gd, hgd⟩ : ∃ gd, gd = w.heap.size := ⟨_, rfl⟩
  have HGD : Kp (gd ≠ h) := ⟨by omega⟩
  rw [← hgd] at HK1 ⊢
  clear h1 h2 h3 hrd hx1 hh1 hRF hW hbW hdW hmk hnD hj hv hlen hgd hlt
  go_wp2_with fail
  refine wp_region_grow (by kernel_rfl) 7 (by decide) (apart_of (by kernel_rfl)) (by kernel_rfl) (chS h 0 gd 0 (leAt (k + 0) bs)) (fun _ _ _ _ => True) (fun _ _ _ _ h _ => by unfold chS at *; exact h) ?_ ?_
  · intro j hj o ho vs w2 hb hpre
    rcases j with _ | _ | _ | _ | _ | _ | _ | j
    · obtain rfl := Option.some.inj ho
      simp only [canon, List.range, List.range.loop, List.foldl]
      go_simp
      exact ⟨rfl, Below.refl _ _⟩
    · obtain rfl := Option.some.inj ho
      simp only [canon, List.range, List.range.loop, List.foldl]
      go_simp
      exact ⟨rfl, Below.refl _ _⟩
    · obtain rfl := Option.some.inj ho
      simp only [canon, List.range, List.range.loop, List.foldl]
      go_simp
      exact ⟨rfl, Below.refl _ _⟩
    · obtain rfl := Option.some.inj ho
      have e2 : vs 2 = _ := hpre 2 (by decide) rfl
      simp only [canon, List.range, List.range.loop, List.foldl]
      go_simp
      exact ⟨rfl, Below.refl _ _⟩
    · obtain rfl := Option.some.inj ho
      have e1 : vs 1 = _ := hpre 1 (by decide) rfl
      have e3 : vs 3 = _ := hpre 3 (by decide) rfl
      simp only [canon, List.range, List.range.loop, List.foldl]
      go_simp
      refine (le_part (HK1.out.2.1.below (bel_then (bel_drew (Below.refl _ _)) hb)) (lo := 0) (by omega) _ rfl).mono ?_
      rintro e2 w3 ⟨rfl, hb3⟩
      exact ⟨rfl, hb3⟩
    · obtain rfl := Option.some.inj ho
      have e0 : vs 0 = _ := hpre 0 (by decide) rfl
      simp only [canon, List.range, List.range.loop, List.foldl]
      go_simp
      exact ⟨rfl, Below.refl _ _⟩
    · obtain rfl := Option.some.inj ho
      have e5 : vs 5 = _ := hpre 5 (by decide) rfl
      simp only [canon, List.range, List.range.loop, List.foldl]
      go_simp
      exact ⟨rfl, Below.refl _ _⟩
    · omega
  · intro vs w2 hb hr hd
    have e4 : vs 4 = _ := hr 4 (by omega)
    have e6 : vs 6 = _ := hr 6 (by omega)
    have hb' := bel_then (bel_drew (Below.refl w1.heap.size w1)) hb
    have hh2 := blk_keep HK1.out.2.2.1 hb'
    obtain ⟨v0, c0⟩ := blk_has hh2 0 (by have := HX.out.1; simp; omega)
    have f0 := blk_frozen hh2 0
    simp only [canon, List.range, List.range.loop, List.foldl]
    refine wpAny_last 7 (by kernel_rfl) ?_
    refine wpOp_go rfl rfl ?_
    go_simp
    refine wpAny_none (by kernel_rfl) ?_ _
    generalize hW2 : w2.setCell ⟨h, 0, none⟩ _ = w1n
    have hset : w1n.heap[h]? = some (.cells (cs.setIfInBounds 0 (.int .u64 (leAt (k + 0) bs))) tt (0, 0)) := by rw [← hW2]; exact blk_set hh2 0 _
    have hxs : Ex (fun x => O x ∨ x = h) w w1n := by rw [← hW2]; exact Ex.set (HK1.out.2.2.2.trans (Ex.of_below hb')) h 0 (.inr rfl) _
    have hSs : S (k + 16) w1n := by rw [← hW2]; exact HH.out.frame _ _ _ (HH.out.below HK1.out.1 hb') (Ex.set (Ex.refl _ _) h 0 HX.out.2.1 _)
    have hrds : RdB w1n (some ⟨gd, 0, none⟩) 16 16 ((bs.drop k).take 16) := by rw [← hW2]; exact (HK1.out.2.1.below hb').far (p := ⟨h, 0, none⟩) HGD.out
    have HK1n := Kp.mk (And.intro hSs (And.intro hrds (And.intro hset hxs)))
    clear hW2 hb hr hd e4 e6 hb' hh2 c0 f0 HK1 hset hxs hSs hrds
    go_wp2_with fail
    refine wp_region_grow (by kernel_rfl) 7 (by decide) (apart_of (by kernel_rfl)) (by kernel_rfl) (chS h 1 gd 8 (leAt (k + 8) bs)) (fun _ _ _ _ => True) (fun _ _ _ _ h _ => by unfold chS at *; exact h) ?_ ?_
    · intro j hj o ho vs w2 hb hpre
      rcases j with _ | _ | _ | _ | _ | _ | _ | j
      · obtain rfl := Option.some.inj ho
        simp only [canon, List.range, List.range.loop, List.foldl]
        go_simp
        exact ⟨rfl, Below.refl _ _⟩
      · obtain rfl := Option.some.inj ho
        simp only [canon, List.range, List.range.loop, List.foldl]
        go_simp
        exact ⟨rfl, Below.refl _ _⟩
      · obtain rfl := Option.some.inj ho
        simp only [canon, List.range, List.range.loop, List.foldl]
        go_simp
        exact ⟨rfl, Below.refl _ _⟩
      · obtain rfl := Option.some.inj ho
        have e2 : vs 2 = _ := hpre 2 (by decide) rfl
        simp only [canon, List.range, List.range.loop, List.foldl]
        go_simp
        exact ⟨rfl, Below.refl _ _⟩
      · obtain rfl := Option.some.inj ho
        have e1 : vs 1 = _ := hpre 1 (by decide) rfl
        have e3 : vs 3 = _ := hpre 3 (by decide) rfl
        simp only [canon, List.range, List.range.loop, List.foldl]
        go_simp
        refine (le_part (HK1n.out.2.1.below (bel_then (bel_drew (Below.refl _ _)) hb)) (lo := 8) (by omega) _ rfl).mono ?_
        rintro e2 w3 ⟨rfl, hb3⟩
        exact ⟨rfl, hb3⟩
      · obtain rfl := Option.some.inj ho
        have e0 : vs 0 = _ := hpre 0 (by decide) rfl
        simp only [canon, List.range, List.range.loop, List.foldl]
        go_simp
        exact ⟨rfl, Below.refl _ _⟩
      · obtain rfl := Option.some.inj ho
        have e5 : vs 5 = _ := hpre 5 (by decide) rfl
        simp only [canon, List.range, List.range.loop, List.foldl]
        go_simp
        exact ⟨rfl, Below.refl _ _⟩
      · omega
    · intro vs w2 hb hr hd
      have e4 : vs 4 = _ := hr 4 (by omega)
      have e6 : vs 6 = _ := hr 6 (by omega)
      have hb' := bel_then (bel_drew (Below.refl w1n.heap.size w1n)) hb
      have hh2 := blk_keep HK1n.out.2.2.1 hb'
      obtain ⟨v0, c0⟩ := blk_has hh2 1 (by have := HX.out.1; simp; omega)
      have f0 := blk_frozen hh2 1
      simp only [canon, List.range, List.range.loop, List.foldl]
      refine wpAny_last 7 (by kernel_rfl) ?_
      refine wpOp_go rfl rfl ?_
      go_simp
      refine wpAny_none (by kernel_rfl) ?_ _
      generalize hW2 : w2.setCell ⟨h, 1, none⟩ _ = w1nn
      have hset : w1nn.heap[h]? = some (.cells ((cs.setIfInBounds 0 (.int .u64 (leAt (k + 0) bs))).setIfInBounds 1 (.int .u64 (leAt (k + 8) bs))) tt (0, 0)) := by rw [← hW2]; exact blk_set hh2 1 _
      have hxs : Ex (fun x => O x ∨ x = h) w w1nn := by rw [← hW2]; exact Ex.set (HK1n.out.2.2.2.trans (Ex.of_below hb')) h 1 (.inr rfl) _
      have hSs : S (k + 16) w1nn := by rw [← hW2]; exact HH.out.frame _ _ _ (HH.out.below HK1n.out.1 hb') (Ex.set (Ex.refl _ _) h 1 HX.out.2.1 _)
      have hrds : RdB w1nn (some ⟨gd, 0, none⟩) 16 16 ((bs.drop k).take 16) := by rw [← hW2]; exact (HK1n.out.2.1.below hb').far (p := ⟨h, 1, none⟩) HGD.out
      have HK1nn := Kp.mk (And.intro hSs (And.intro hrds (And.intro hset hxs)))
      clear hW2 hb hr hd e4 e6 hb' hh2 c0 f0 HK1n hset hxs hSs hrds
      go_wp2_with fail
      go_ret2
      exact ⟨rfl, HK1nn.out.1, HK1nn.out.2.2.1, HK1nn.out.2.2.2⟩

/-- A header within a block, read. -/
def hdSet (cs : Array Value) (k : Nat) (bs : List UInt8) : Array Value := ((((cs.setIfInBounds 0 (.int .u64 (leAt k bs))).setIfInBounds 1 (.int .u64 (leAt (k + 8) bs))).setIfInBounds 2 (.int .u64 (leAt (k + 16) bs))).setIfInBounds 3 (.int .u64 (leAt (k + 24) bs))).setIfInBounds 4 (.int .u64 (leAt (k + 32) bs))

set_option maxHeartbeats 8000000 in
set_option maxRecDepth 100000 in
/-- (*Header).ReadFrom of a sound header. -/
theorem hdReadS_calls (T : TypeId) (pv : Value) (fr : FuncId) (bs : List UInt8) (ve vu vo vn : Value) (O D : Nat → Prop) (S : Nat → World → Prop) (H : Src T pv fr bs ve vu vo vn O D S) (h : Nat) (tt : TypeId) (cs : Array Value) (w : World) (hS : S 0 w) (hh : w.heap[h]? = some (.cells cs tt (0, 0))) (h5 : 5 ≤ cs.size) (hD : ¬ D h) (hav : 40 ≤ bs.length) (hsd : hdSound (leAt 16 bs) (leAt 24 bs) (leAt 32 bs)) :
    Calls Tryz.prog 98 #[.pointer (some ⟨h, 0, none⟩), .iface T pv] w fun e' w' => e' = .returned (.tuple #[.int .i64 40, .nilIface]) ∧ S 40 w' ∧ w'.heap[h]? = some (.cells (hdSet cs 0 bs) tt (0, 0)) ∧ Ex (fun x => O x ∨ x = h) w w' := by
  have HC := Kp.mk (chReadS_calls T pv fr bs ve vu vo vn O D S H 0 h tt cs w hS hh h5 hD (by omega))
  have hmk : ∀ W : World, (Instr.makeSlice 67 (.int .i64 24) (.int .i64 24)).run Tryz.prog W = .ok (.slice (some ⟨W.heap.size, 0, none⟩) 24 24) (W.alloc (.cells (zeros 24) 5)) := fun W => mk_bytes 67 Tryz.underlying67 24 (by omega) W
  have HH := Kp.mk H
  have HX := Kp.mk (And.intro h5 (And.intro hD (And.intro hav hsd)))
  clear H hS hh h5 hD hav hsd
  go_enter Tryz.func98, Tryz.ntmps98
  go_wp2_with fail
  refine HC.out.mono ?_
  rintro e1 w1 ⟨rfl, hg1, hh1, hb1⟩
  have HG1 := Kp.mk (And.intro hg1 (And.intro hh1 hb1))
  clear hg1 hh1 hb1 HC
  go_wp2_with fail
  have hlt : h < w1.heap.size := (Array.getElem?_eq_some_iff.1 HG1.out.2.1).1
  generalize hW : w1.alloc _ = W
  have hbW : Below w1.heap.size w1 W := by rw [← hW]; exact bel_alloc (Below.refl _ _) _
  have hdW : W.heap[w1.heap.size]? = some (.cells (zeros 24) 5 (0, 0)) := by rw [← hW]; simp [World.alloc, -World.alloc_eq]
  have hnD : ¬ D w1.heap.size := fun hd => Nat.lt_irrefl _ (HH.out.old _ _ HG1.out.1 _ hd)
  have hRF := fullS_calls T pv fr bs ve vu vo vn O D S HH.out (0 + 16) W w1.heap.size 5 (zeros 24) 0 24 24 (HH.out.below HG1.out.1 hbW) hnD hdW (by rw [zeros_size]; omega) (Nat.le_refl _) (by omega) (by omega)
  have hj : min 24 (bs.length - (0 + 16)) = 24 := by have := HX.out.2.2; omega
  have hv : rfV 24 (bs.length - (0 + 16)) ve vu = .nilIface := if_pos (by have := HX.out.2.2; omega)
  refine hRF.mono ?_
  rintro e1 w2 ⟨rfl, h1, h2, h3⟩
  rw [hj] at h1 h2
  rw [hj, hv]
  have hlen : ((bs.drop (0 + 16)).take 24).length = 24 := by rw [List.length_take, List.length_drop]; have := HX.out.2.2; omega
  have hrd := rd_put (cm := 24) h2 (by rw [zeros_size, hlen]; omega) (by omega) (by omega)
  rw [hlen] at hrd
  have hx1 : Ex (fun x => O x ∨ x = h) w1 w2 := Ex.new hbW h3 (fun x hx hq => hq.elim .inl (fun e => absurd hx (by omega)))
  have hh1 := h3.keep (blk_keep HG1.out.2.1 hbW) (fun hq => hq.elim (fun ho => HX.out.2.1 (HH.out.own _ ho)) (fun e => by omega))
  have HK : Kp (RdB w2 (some ⟨w1.heap.size, 0, none⟩) 24 24 ((bs.drop 16).take 24)) := ⟨hrd⟩
  obtain ⟨c2, hc2⟩ : ∃ c2, c2 = (cs.setIfInBounds 0 (.int .u64 (leAt 0 bs))).setIfInBounds 1 (.int .u64 (leAt (0 + 8) bs)) := ⟨_, rfl⟩
  rw [← hc2] at hh1
  have HH2 : Kp (S 40 w2 ∧ w2.heap[h]? = some (.cells c2 tt (0, 0)) ∧ Ex (fun x => O x ∨ x = h) w w2) := ⟨h1, hh1, HG1.out.2.2.trans hx1⟩
  have HC2 := Kp.mk hc2
  obtain ⟨gd, hgd⟩ : ∃ gd, gd = w1.heap.size := ⟨_, rfl⟩
  rw [← hgd] at HK ⊢
  clear h1 h2 h3 hrd hx1 hh1 hRF hW hbW hdW hmk HG1 hgd hlt hnD hj hv hlen hc2
  go_wp2_with fail
  refine wp_region_grow (by kernel_rfl) 4 (by decide) (apart_of (by kernel_rfl)) (by kernel_rfl) (hrR gd 0 (leAt 16 bs)) (fun _ _ _ _ => True) (fun _ _ _ _ h _ => by unfold hrR at *; exact h) ?_ ?_
  · intro j hj o ho vs w5 hb hpre
    rcases j with _ | _ | _ | _ | j
    · obtain rfl := Option.some.inj ho
      simp only [canon, List.range, List.range.loop, List.foldl]
      go_simp
      exact ⟨rfl, Below.refl _ _⟩
    · obtain rfl := Option.some.inj ho
      simp only [canon, List.range, List.range.loop, List.foldl]
      go_simp
      exact ⟨rfl, Below.refl _ _⟩
    · obtain rfl := Option.some.inj ho
      have e1 : vs 1 = _ := hpre 1 (by decide) rfl
      simp only [canon, List.range, List.range.loop, List.foldl]
      go_simp
      exact ⟨rfl, Below.refl _ _⟩
    · obtain rfl := Option.some.inj ho
      have e0 : vs 0 = _ := hpre 0 (by decide) rfl
      have e2 : vs 2 = _ := hpre 2 (by decide) rfl
      simp only [canon, List.range, List.range.loop, List.foldl]
      go_simp
      refine (le_part (i := 16) (HK.out.below (bel_then (bel_drew (Below.refl _ _)) hb)) (lo := 0) (by omega) _ rfl).mono ?_
      rintro e2 w6 ⟨rfl, hb3⟩
      exact ⟨rfl, hb3⟩
    · omega
  · intro vs w3 hb hr hd
    have e3 : vs 3 = _ := hr 3 (by omega)
    have hb' := bel_then (bel_drew (Below.refl w2.heap.size w2)) hb
    have HK3 := Kp.mk (HK.out.below hb')
    have HH3 := Kp.mk (And.intro (HH.out.below HH2.out.1 hb') (And.intro (blk_keep HH2.out.2.1 hb') (HH2.out.2.2.trans (Ex.of_below hb'))))
    clear HK HH2 hb' hb
    simp only [canon, List.range, List.range.loop, List.foldl]
    refine wpAny_last 4 (by kernel_rfl) ?_
    refine wpOp_go rfl rfl ?_
    go_simp
    refine wpAny_none (by kernel_rfl) ?_ _
    clear hr hd
    go_wp2_with fail
    refine wp_region_grow (by kernel_rfl) 4 (by decide) (apart_of (by kernel_rfl)) (by kernel_rfl) (hrR gd 8 (leAt 24 bs)) (fun _ _ _ _ => True) (fun _ _ _ _ h _ => by unfold hrR at *; exact h) ?_ ?_
    · intro j hj o ho vs w5 hb hpre
      rcases j with _ | _ | _ | _ | j
      · obtain rfl := Option.some.inj ho
        simp only [canon, List.range, List.range.loop, List.foldl]
        go_simp
        exact ⟨rfl, Below.refl _ _⟩
      · obtain rfl := Option.some.inj ho
        simp only [canon, List.range, List.range.loop, List.foldl]
        go_simp
        exact ⟨rfl, Below.refl _ _⟩
      · obtain rfl := Option.some.inj ho
        have e1 : vs 1 = _ := hpre 1 (by decide) rfl
        simp only [canon, List.range, List.range.loop, List.foldl]
        go_simp
        exact ⟨rfl, Below.refl _ _⟩
      · obtain rfl := Option.some.inj ho
        have e0 : vs 0 = _ := hpre 0 (by decide) rfl
        have e2 : vs 2 = _ := hpre 2 (by decide) rfl
        simp only [canon, List.range, List.range.loop, List.foldl]
        go_simp
        refine (le_part (i := 16) (HK3.out.below (bel_then (bel_drew (Below.refl _ _)) hb)) (lo := 8) (by omega) _ rfl).mono ?_
        rintro e2 w6 ⟨rfl, hb3⟩
        exact ⟨rfl, hb3⟩
      · omega
    · intro vs w4 hb hr hd
      have e3 : vs 3 = _ := hr 3 (by omega)
      have hb' := bel_then (bel_drew (Below.refl w3.heap.size w3)) hb
      have HK4 := Kp.mk (HK3.out.below hb')
      have HH4 := Kp.mk (And.intro (HH.out.below HH3.out.1 hb') (And.intro (blk_keep HH3.out.2.1 hb') (HH3.out.2.2.trans (Ex.of_below hb'))))
      clear HK3 HH3 hb' hb
      simp only [canon, List.range, List.range.loop, List.foldl]
      refine wpAny_last 4 (by kernel_rfl) ?_
      refine wpOp_go rfl rfl ?_
      go_simp
      refine wpAny_none (by kernel_rfl) ?_ _
      clear hr hd
      go_wp2_with fail
      refine wp_region_grow (by kernel_rfl) 4 (by decide) (apart_of (by kernel_rfl)) (by kernel_rfl) (hrR gd 16 (leAt 32 bs)) (fun _ _ _ _ => True) (fun _ _ _ _ h _ => by unfold hrR at *; exact h) ?_ ?_
      · intro j hj o ho vs w5 hb hpre
        rcases j with _ | _ | _ | _ | j
        · obtain rfl := Option.some.inj ho
          simp only [canon, List.range, List.range.loop, List.foldl]
          go_simp
          exact ⟨rfl, Below.refl _ _⟩
        · obtain rfl := Option.some.inj ho
          simp only [canon, List.range, List.range.loop, List.foldl]
          go_simp
          exact ⟨rfl, Below.refl _ _⟩
        · obtain rfl := Option.some.inj ho
          have e1 : vs 1 = _ := hpre 1 (by decide) rfl
          simp only [canon, List.range, List.range.loop, List.foldl]
          go_simp
          exact ⟨rfl, Below.refl _ _⟩
        · obtain rfl := Option.some.inj ho
          have e0 : vs 0 = _ := hpre 0 (by decide) rfl
          have e2 : vs 2 = _ := hpre 2 (by decide) rfl
          simp only [canon, List.range, List.range.loop, List.foldl]
          go_simp
          refine (le_part (i := 16) (HK4.out.below (bel_then (bel_drew (Below.refl _ _)) hb)) (lo := 16) (by omega) _ rfl).mono ?_
          rintro e2 w6 ⟨rfl, hb3⟩
          exact ⟨rfl, hb3⟩
        · omega
      · intro vs w5 hb hr hd
        have e3 : vs 3 = _ := hr 3 (by omega)
        have hb' := bel_then (bel_drew (Below.refl w4.heap.size w4)) hb
        have HK5 := Kp.mk (HK4.out.below hb')
        have HH5 := Kp.mk (And.intro (HH.out.below HH4.out.1 hb') (And.intro (blk_keep HH4.out.2.1 hb') (HH4.out.2.2.trans (Ex.of_below hb'))))
        clear HK4 HH4 hb' hb
        simp only [canon, List.range, List.range.loop, List.foldl]
        refine wpAny_last 4 (by kernel_rfl) ?_
        refine wpOp_go rfl rfl ?_
        go_simp
        refine wpAny_none (by kernel_rfl) ?_ _
        clear hr hd
        obtain ⟨s1, s1b, s2, s2b, s3⟩ := HX.out.2.2.2
        have q1 : decide (wrap64 (leAt 16 bs : Int) < 51) = false := decide_eq_false (by rw [w64_lo s1b]; omega)
        have q2 : decide (wrap64 (leAt 24 bs : Int) ≤ 0) = false := decide_eq_false (by rw [w64_lo s2b]; omega)
        have q3 : decide (wrap64 (leAt 32 bs : Int) < 0) = false := decide_eq_false (by rw [w64_lo s3]; omega)
        clear s1 s1b s2 s2b s3
        have hs5 : 5 ≤ c2.size := by rw [HC2.out]; have := HX.out.1; simp; omega
        obtain ⟨v2, c2c⟩ := blk_has HH5.out.2.1 2 (by omega)
        obtain ⟨v3, c3c⟩ := blk_has HH5.out.2.1 3 (by omega)
        obtain ⟨v4, c4c⟩ := blk_has HH5.out.2.1 4 (by omega)
        have f2 := blk_frozen HH5.out.2.1 2
        have f3 := blk_frozen HH5.out.2.1 3
        have f4 := blk_frozen HH5.out.2.1 4
        have hset := blk_set (blk_set (blk_set HH5.out.2.1 2 (.int .u64 (leAt 16 bs))) 3 (.int .u64 (leAt 24 bs))) 4 (.int .u64 (leAt 32 bs))
        have hex := ((Ex.refl (fun x => x = h) w5).set h 2 rfl (.int .u64 (leAt 16 bs))).set h 3 rfl (.int .u64 (leAt 24 bs)) |>.set h 4 rfl (.int .u64 (leAt 32 bs))
        have HE := Kp.mk (And.intro (HH.out.frame _ _ _ HH5.out.1 (hex.mono (fun x hx hd => HX.out.2.1 (hx ▸ hd)))) (And.intro hset (HH5.out.2.2.trans (hex.mono (fun x hx => .inr hx)))))
        clear HK5 HH5 hset hex hs5
        go_wp2_with fail
        go_ret2
        exact ⟨rfl, HE.out.1, by rw [HE.out.2.1, HC2.out]; rfl, HE.out.2.2⟩

end Go.Proofs.YtkcpgcaccgahaaaGreatDoor
