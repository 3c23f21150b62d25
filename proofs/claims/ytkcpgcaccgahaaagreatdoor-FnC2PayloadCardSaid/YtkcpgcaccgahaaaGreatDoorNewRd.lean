/- The walks of shared.NewReader and cbor.NewDecoder. Printed by gen-newrd.py. -/
import Derived.Test.YtkcpgcaccgahaaaGreatDoorDecB
import Derived.Deep.MidRow
namespace Go.Proofs.YtkcpgcaccgahaaaGreatDoor
open Go.RowKit

def slick0 (gz : Nat) : Array Value := #[.iface 263 (.pointer (some ⟨gz, 0, none⟩)), .int .u8 0, .int .u8 0, .int .u8 0, .int .u8 0, .int .u8 0, .int .u8 0, .int .u8 0, .int .u8 0, .int .u8 0, .int .u8 0, .int .u8 0, .int .u8 0, .int .u8 0, .int .u8 0, .int .u8 0, .int .u8 0, .int .u8 0, .int .u8 0, .int .u8 0, .int .u8 0, .int .u8 0, .int .u8 0, .int .u8 0, .int .u8 0, .int .u8 0, .int .u8 0, .int .u8 0, .int .u8 0, .int .u8 0, .int .u8 0, .int .u8 0, .int .u8 0, .int .i64 0, .slice none 0 0, .bool false]
set_option maxHeartbeats 8000000 in
set_option maxRecDepth 100000 in
/-- shared.NewReader. -/
theorem newRd_calls (T : TypeId) (pv : Value) (w : World) :
    Calls Tryz.prog 122 #[.iface T pv] w fun e w' => e = .returned (.iface 262 (.pointer (some ⟨w.heap.size + 1, 0, none⟩))) ∧ R2At w' w.heap.size T pv ∧ SlAt w' (w.heap.size + 1) w.heap.size ∧ Below w.heap.size w w' := by
  have HB := Kp.mk (fun o o' => bel_alloc (bel_alloc (Below.refl w.heap.size w) o) o')
  have HK := Kp.mk (fun o o' => blk_keep (blk_new (w := w) (o := .cells o 265) (Below.refl _ _)) (bel_alloc (Below.refl _ _) o'))
  have HN := Kp.mk (fun o o' => blk_new2 (w := w) (o := o) (o2 := .cells o' 270) (Below.refl _ _))
  go_enter Tryz.func122, Tryz.ntmps122
  go_wp2_with fail
  go_ret
  exact ⟨rfl, ⟨0, 0, 0, by decide, HK.out _ _⟩, ⟨slick0 w.heap.size, 0, HN.out _ _, rfl, rfl, rfl, rfl⟩, HB.out _ _⟩

theorem mk_ph (W : World) : (Instr.makeSlice 230 (.int .i64 0) (.int .i64 10)).run Tryz.prog W = .ok (.slice (some ⟨W.heap.size, 0, none⟩) 0 10) (W.alloc (.cells #[.int .u8 0, .int .u8 0, .int .u8 0, .int .u8 0, .int .u8 0, .int .u8 0, .int .u8 0, .int .u8 0, .int .u8 0, .int .u8 0] 231)) := by kernel_rfl
theorem mk_nn (W : World) : (Instr.makeSlice 109 (.int .i64 0) (.int .i64 10)).run Tryz.prog W = .ok (.slice (some ⟨W.heap.size, 0, none⟩) 0 10) (W.alloc (.cells #[.int .i64 0, .int .i64 0, .int .i64 0, .int .i64 0, .int .i64 0, .int .i64 0, .int .i64 0, .int .i64 0, .int .i64 0, .int .i64 0] 3)) := by kernel_rfl
/-- What the operations of the making leave, in any order. -/
def ndR (T : TypeId) (pv : Value) (b : Nat) (i : Nat) (v : Value) (w : World) : Prop :=
  match i with
  | 0 => v = .agg #[.bool true, .bool false, .int .i64 0, .bool false, .bool false, .bool false, .bool false]
  | 1 => v = .iface T pv
  | 2 => ∃ gz, v = .iface 262 (.pointer (some ⟨gz + 1, 0, none⟩)) ∧ b ≤ gz ∧ R2At w gz T pv ∧ SlAt w (gz + 1) gz
  | 3 => ∃ gk, v = .slice (some ⟨gk, 0, none⟩) 0 10 ∧ b ≤ gk ∧ w.heap[gk]? = some (.cells #[.int .u8 0, .int .u8 0, .int .u8 0, .int .u8 0, .int .u8 0, .int .u8 0, .int .u8 0, .int .u8 0, .int .u8 0, .int .u8 0] 231 (0, 0))
  | 4 => ∃ gl, v = .slice (some ⟨gl, 0, none⟩) 0 10 ∧ b ≤ gl ∧ w.heap[gl]? = some (.cells #[.int .i64 0, .int .i64 0, .int .i64 0, .int .i64 0, .int .i64 0, .int .i64 0, .int .i64 0, .int .i64 0, .int .i64 0, .int .i64 0] 3 (0, 0))
  | _ => True
theorem ndR_keep {T : TypeId} {pv : Value} {b : Nat} : ∀ (i : Nat) (v : Value) (w w' : World), ndR T pv b i v w → Below w.heap.size w w' → ndR T pv b i v w'
  | 0, _, _, _, h, _ => h
  | 1, _, _, _, h, _ => h
  | 2, _, _, _, ⟨gz, h1, h2, h3, h4⟩, hb => ⟨gz, h1, h2, h3.ex (Ex.of_below (P := fun _ => False) hb) id, h4.ex (Ex.of_below (P := fun _ => False) hb) id⟩
  | 3, _, _, _, ⟨gk, h1, h2, h3⟩, hb => ⟨gk, h1, h2, blk_keep h3 hb⟩
  | 4, _, _, _, ⟨gk, h1, h2, h3⟩, hb => ⟨gk, h1, h2, blk_keep h3 hb⟩
  | _ + 5, _, _, _, _, _ => trivial

set_option maxHeartbeats 8000000 in
set_option maxRecDepth 100000 in
/-- cbor.NewDecoder. -/
theorem newDec_calls (T : TypeId) (pv : Value) (fr : FuncId) (bs : List UInt8) (ve vu vo vn : Value) (O D : Nat → Prop) (S : Nat → World → Prop) (H : Src T pv fr bs ve vu vo vn O D S) (k : Nat) (w : World) (hS : S k w) :
    Calls Tryz.prog 101 #[.agg #[.bool true, .bool false, .int .i64 0, .bool false, .bool false, .bool false, .bool false], .iface T pv] w fun e w' => ∃ gz gs gd gk gl : Nat, e = .returned (.pointer (some ⟨gd, 0, none⟩)) ∧ w.heap.size ≤ gz ∧ gz < gs ∧ (w.heap.size ≤ gd ∧ w.heap.size ≤ gk ∧ w.heap.size ≤ gl) ∧ (¬ slD D gz gs gd ∧ ¬ slD D gz gs gk ∧ ¬ slD D gz gs gl ∧ gd ≠ gk ∧ gd ≠ gl ∧ gk ≠ gl) ∧ DecS T pv S gz gs gd gk gl 0 [] [] k w' ∧ Below w.heap.size w w' := by
  have HC := Kp.mk (newRd_calls T pv)
  have HH := Kp.mk (And.intro H hS)
  have HN0 := Kp.mk (fun o => blk_new (w := w) (o := o) (Below.refl _ _))
  have HB0 := Kp.mk (fun o => bel_alloc (Below.refl w.heap.size w) o)
  clear H hS
  go_enter Tryz.func101, Tryz.ntmps101
  go_wp2_with fail
  obtain ⟨w1, hw1⟩ : ∃ w1, w1 = w.alloc (.cells #[.bool true, .bool false, .int .i64 0, .bool false, .bool false, .bool false, .bool false] 188) := ⟨_, rfl⟩
  have hc := HN0.out (.cells #[.bool true, .bool false, .int .i64 0, .bool false, .bool false, .bool false, .bool false] 188)
  have hb1 := HB0.out (.cells #[.bool true, .bool false, .int .i64 0, .bool false, .bool false, .bool false, .bool false] 188)
  rw [← hw1] at hc hb1 ⊢
  obtain ⟨g0, hg0⟩ : ∃ g0, g0 = w.heap.size := ⟨_, rfl⟩
  rw [← hg0] at hc ⊢
  have HCF := Kp.mk (blk_keep hc (bel_drew (Below.refl _ _)))
  have HB1 := Kp.mk hb1
  have hsz := hb1.size
  have HG0 := Kp.mk (And.intro hg0 hsz)
  clear HN0 HB0 hw1 hc hb1 hg0 hsz
  refine wp_region_grow (by kernel_rfl) 5 (by decide) (apart_of (by kernel_rfl)) (by kernel_rfl) (ndR T pv w1.heap.size) (fun _ _ _ _ => True) ndR_keep ?_ ?_
  · intro j hj ob ho vs w2 hb hpre
    have hbs := hb.size
    have hcf := blk_keep HCF.out hb
    rcases j with _ | _ | _ | _ | _ | j
    · have c0 := blk_cell hcf 0
      have c1 := blk_cell hcf 1
      have c2 := blk_cell hcf 2
      have c3 := blk_cell hcf 3
      have c4 := blk_cell hcf 4
      have c5 := blk_cell hcf 5
      have c6 := blk_cell hcf 6
      clear hcf hb hpre
      obtain rfl := Option.some.inj ho
      simp only [canon, List.range, List.range.loop, List.foldl]
      go_simp
      exact ⟨rfl, Below.refl _ _⟩
    · clear hcf hb hpre
      obtain rfl := Option.some.inj ho
      simp only [canon, List.range, List.range.loop, List.foldl]
      go_simp
      exact ⟨rfl, Below.refl _ _⟩
    · have e1 : vs 1 = .iface T pv := hpre 1 (by decide) (by obtain rfl := Option.some.inj ho; rfl)
      clear hcf hb hpre
      obtain rfl := Option.some.inj ho
      simp only [canon, List.range, List.range.loop, List.foldl]
      go_simp
      refine (HC.out _).mono ?_
      rintro e w3 ⟨rfl, h1, h2, h3⟩
      exact ⟨⟨_, rfl, hbs, h1, h2⟩, h3⟩
    · have hmp := mk_ph
      have HNN := Kp.mk (fun o => blk_new (w := w2) (o := o) (Below.refl _ _))
      clear hcf hb hpre
      obtain rfl := Option.some.inj ho
      simp only [canon, List.range, List.range.loop, List.foldl]
      go_simp
      exact ⟨⟨_, rfl, hbs, HNN.out _⟩, bel_alloc (Below.refl _ _) _⟩
    · have hmn := mk_nn
      have HNN := Kp.mk (fun o => blk_new (w := w2) (o := o) (Below.refl _ _))
      clear hcf hb hpre
      obtain rfl := Option.some.inj ho
      simp only [canon, List.range, List.range.loop, List.foldl]
      go_simp
      exact ⟨⟨_, rfl, hbs, HNN.out _⟩, bel_alloc (Below.refl _ _) _⟩
    · omega
  · intro vs w2 hb hr _
    have e0 : vs 0 = _ := hr 0 (by decide)
    have e1 : vs 1 = _ := hr 1 (by decide)
    obtain ⟨gz, e2, hz, hR2, hSl⟩ : ndR T pv w1.heap.size 2 (vs 2) w2 := hr 2 (by decide)
    obtain ⟨gk, e3, hk, hkb⟩ : ndR T pv w1.heap.size 3 (vs 3) w2 := hr 3 (by decide)
    obtain ⟨gl, e4, hl, hlb⟩ : ndR T pv w1.heap.size 4 (vs 4) w2 := hr 4 (by decide)
    have HX := Kp.mk (And.intro hb (And.intro hz (And.intro hR2 (And.intro hSl (And.intro hk (And.intro hkb (And.intro hl hlb)))))))
    have HNN := Kp.mk (fun o => blk_new (w := w2) (o := o) (Below.refl _ _))
    have HBB := Kp.mk (fun o => bel_alloc (Below.refl w2.heap.size w2) o)
    clear hb hz hR2 hSl hk hkb hl hlb hr HCF
    simp only [canon, List.range, List.range.loop, List.foldl]
    refine wpAny_last 5 (by kernel_rfl) ?_
    refine wpOp_go rfl rfl ?_
    go_simp
    refine wpAny_last 6 (by kernel_rfl) ?_
    refine wpOp_go rfl rfl ?_
    go_simp
    refine wpAny_last 7 (by kernel_rfl) ?_
    refine wpOp_go rfl rfl ?_
    go_simp
    refine wpAny_none (by kernel_rfl) ?_ _
    obtain ⟨gd, hgd⟩ : ∃ gd, gd = w2.heap.size := ⟨_, rfl⟩
    rw [← hgd]
    obtain ⟨w3, hw3⟩ : ∃ w3, w3 = w2.alloc (.cells #[.bool true, .bool false, .int .i64 0, .bool false, .bool false, .bool false, .bool false, .iface 262 (.pointer (some ⟨gz + 1, 0, none⟩)), .slice (some ⟨gk, 0, none⟩) 0 10, .int .u8 0, .slice (some ⟨gl, 0, none⟩) 0 10] 233) := ⟨_, rfl⟩
    have hdb : w3.heap[gd]? = some (.cells (dcCs (gz + 1) 0 (.slice (some ⟨gk, 0, none⟩) 0 10) (.slice (some ⟨gl, 0, none⟩) 0 10)) 233 (0, 0)) := by rw [hw3, hgd]; exact HNN.out _
    have hbd : Below w2.heap.size w2 w3 := by rw [hw3]; exact HBB.out _
    rw [← hw3]
    have c9 : w3.cell? ⟨gd, 9, none⟩ = some (.int .u8 0) := blk_cell hdb 9
    have f9 := blk_frozen hdb 9
    have hdd : DcAt (w3.setCell ⟨gd, 9, none⟩ (.int .u8 0)) gd (gz + 1) 0 (.slice (some ⟨gk, 0, none⟩) 0 10) (.slice (some ⟨gl, 0, none⟩) 0 10) := by
      have h := blk_set hdb 9 (.int .u8 ((0 : Nat) : Int))
      simpa [DcAt, dcCs] using h
    have HDD := Kp.mk (And.intro hgd (And.intro hdb (And.intro hbd hdd)))
    clear hgd hdb hbd hw3 hdd HNN HBB
    go_wp2_with fail
    go_ret
    obtain ⟨hb, hz, hR2, hSl, hk, hkb, hl, hlb⟩ := HX.out
    obtain ⟨hgd, hdb, hbd, hdd⟩ := HDD.out
    obtain ⟨H, hS⟩ := HH.out
    have hws : w.heap.size ≤ w1.heap.size := HG0.out.2
    have hzl := hR2.lt
    have hsl := hSl.lt
    have hkl := (Array.getElem?_eq_some_iff.1 hkb).1
    have hll := (Array.getElem?_eq_some_iff.1 hlb).1
    have hold := H.old k w hS
    obtain ⟨_, _, _, _, hzb⟩ := id hR2
    obtain ⟨_, _, hsb, _⟩ := id hSl
    have hne : ∀ {g g' : Nat} {c c' : Array Value} {t t' : TypeId}, w2.heap[g]? = some (.cells c t (0, 0)) → w2.heap[g']? = some (.cells c' t' (0, 0)) → t ≠ t' → g ≠ g' := fun h1 h2 hn e => by
      subst e
      have h3 := Option.some.inj (h1.symm.trans h2)
      injection h3 with _ h4
      exact hn h4
    have hx1 : Ex (fun x => x = gd) w w2 := ((Ex.of_below HB1.out).trans (Ex.of_below (bel_drew (Below.refl _ _)))).trans (Ex.of_below hb)
    have hx2 : Ex (fun x => x = gd) w2 (w3.setCell ⟨gd, 9, none⟩ (.int .u8 0)) := (Ex.of_below (P := fun x => x = gd) hbd).setCell (p := ⟨gd, 9, none⟩) rfl _
    have hx := hx1.trans hx2
    refine ⟨gz, gz + 1, gd, gk, gl, rfl, by omega, by omega, ⟨by omega, by omega, by omega⟩, ⟨?_, ?_, ?_, by omega, by omega, hne hkb hlb (by decide)⟩, ⟨⟨H.frame _ _ _ hS (hx.mono (fun x hx hd => by have := hold x hd; omega)), hR2.ex hx2 (by show ¬ gz = gd; omega), hSl.ex hx2 (by show ¬ gz + 1 = gd; omega)⟩, hdd, ⟨_, hx2.keep hkb (by show ¬ gk = gd; omega), rfl, fun i x h => by simp at h⟩, ⟨_, hx2.keep hlb (by show ¬ gl = gd; omega), rfl, fun i x h => by simp at h⟩⟩, hx.toBelow (fun j hj e => by omega) (Nat.le_refl _)⟩
    · rintro (h | h | h)
      · have := hold _ h; omega
      · omega
      · omega
    · rintro (h | h | h)
      · have := hold _ h; omega
      · exact hne hkb hzb (by decide) h
      · exact hne hkb hsb (by decide) h
    · rintro (h | h | h)
      · have := hold _ h; omega
      · exact hne hlb hzb (by decide) h
      · exact hne hlb hsb (by decide) h

end Go.Proofs.YtkcpgcaccgahaaaGreatDoor
