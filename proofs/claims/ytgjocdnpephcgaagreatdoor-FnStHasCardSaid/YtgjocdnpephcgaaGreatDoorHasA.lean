/- Some texts in one: Has1, Has2, Has, IiHas. -/
import Derived.Test.YtgjocdnpephcgaaGreatDoorIiA
import Derived.Test.YtgjocdnpephcgaaGreatDoorGetA
import Derived.Test.YtgjocdnpephcgaaGreatDoorIxA
import Derived.BigQuiet
namespace Go.Proofs.YtgjocdnpephcgaaGreatDoor
open Go.RowKit

/-- What stands where the iteration begins. -/
structure HsW (B g eb fb : Nat) (T : LT) (L : List Itm) (p : Itm) (W0 : World) : Prop where
  own : OwnT B W0 g T L
  pr : RdB W0 p.A p.ds.length p.c p.ds
  e : W0.heap[eb]? = some (.cells #[.slice p.A p.ds.length p.c, .string p.S, .int .u64 p.off] 90 (0, 0))
  f : W0.heap[fb]? = some (.cells #[.bool false] 4 (0, 0))
/-- The world of an iteration that has found, or has not. -/
def HsS (fb : Nat) (W0 : World) (b : Bool) (W : World) : Prop :=
  Ex (fun j => j = fb ∨ W0.heap.size ≤ j) W0 W ∧ W.heap[fb]? = some (.cells #[.bool b] 4 (0, 0))
theorem HsS.below {fb : Nat} {W0 : World} {b : Bool} {W W' : World} (h : HsS fb W0 b W) (hb : Below W.heap.size W W') : HsS fb W0 b W' :=
  ⟨h.1.trans (Ex.of_below hb), blk_keep h.2 hb⟩
theorem HsW.keep {B g eb fb : Nat} {T : LT} {L : List Itm} {p : Itm} {W0 W : World} (h : HsW B g eb fb T L p W0) (hx : Ex (fun j => j = fb ∨ W0.heap.size ≤ j) W0 W) {k : Nat} {cs : Array Value} {t : TypeId} (hk : W0.heap[k]? = some (.cells cs t (0, 0))) (h2 : t ≠ 4) : W.heap[k]? = some (.cells cs t (0, 0)) := by
  refine hx.keep hk ?_
  have hl := (Array.getElem?_eq_some_iff.1 hk).1
  rintro (rfl | hq)
  · have ha := h.f
    rw [hk] at ha
    simp at ha
    exact h2 ha.2
  · omega
theorem HsW.rd {B g eb fb : Nat} {T : LT} {L : List Itm} {p : Itm} {W0 W : World} (h : HsW B g eb fb T L p W0) (hx : Ex (fun j => j = fb ∨ W0.heap.size ≤ j) W0 W) {A : Option Addr} {n c : Nat} {bs : List UInt8} (hr : RdB W0 A n c bs) : RdB W A n c bs := by
  refine hr.exL hx fun k hk hP => ?_
  rcases hP with rfl | hq
  · exact ⟨_, _, h.f, fun i x => by rcases i with _ | i <;> simp⟩
  · omega
theorem HsW.tree {B g eb fb : Nat} {T : LT} {L : List Itm} {p : Itm} {W0 W : World} (h : HsW B g eb fb T L p W0) (hx : Ex (fun j => j = fb ∨ W0.heap.size ≤ j) W0 W) : T.In W := by
  refine h.own.2.1.keep fun b hb => ?_
  obtain ⟨cs, hcs⟩ := h.own.2.1.node_of b hb
  rw [hcs]
  exact h.keep hx hcs (by decide)

/-- Behind k items, none of which matches. -/
def HsI (mt : Itm → Bool) (fb : Nat) (W0 : World) (M : List Itm) (k : Nat) (W : World) : Prop :=
  HsS fb W0 false W ∧ k ≤ M.length ∧ ∀ y ∈ M.take k, mt y = false
theorem HsI.all {mt : Itm → Bool} {fb : Nat} {W0 : World} {M : List Itm} {W : World} (h : HsI mt fb W0 M M.length W) : M.any mt = false := by
  have := h.2.2
  rw [List.take_length] at this
  exact List.any_eq_false.2 fun y hy => by simp [this y hy]
theorem HsI.next {mt : Itm → Bool} {fb : Nat} {W0 : World} {M : List Itm} {k : Nat} {W W' : World} (h : HsI mt fb W0 M k W) (hk : k < M.length) (hm : mt M[k] = false) (hb : Below W.heap.size W W') : HsI mt fb W0 M (k + 1) W' :=
  ⟨h.1.below hb, by omega, fun y hy => by
    rw [List.take_succ_eq_append_getElem hk] at hy
    rcases List.mem_append.1 hy with hy | hy
    · exact h.2.2 y hy
    · simp at hy; subst hy; exact hm⟩

set_option maxHeartbeats 8000000 in
set_option maxRecDepth 100000 in
/-- HasExactCID's closure. -/
theorem hasEx1_calls (B g eb fb xb : Nat) (S : ByteArray) (T : LT) (L : List Itm) (p : Itm) (W0 : World) (h : HsW B g eb fb T L p W0) (hxb : W0.heap[xb]? = some (.cells #[.string S] 45 (0, 0))) (k : Nat) (hk : k < (vis p L).length) (W : World) (hI : HsI (fun y => decide (y.S = S)) fb W0 (ofD p.ds L) k W) :
    Calls Tryz.prog 67 #[(vis p L)[k].val, .pointer (some ⟨eb, 0, none⟩), .pointer (some ⟨xb, 0, none⟩), .pointer (some ⟨fb, 0, none⟩)] W fun e W' =>
      (e = .returned (.bool true) ∧ HsI (fun y => decide (y.S = S)) fb W0 (ofD p.ds L) (k + 1) W') ∨ (e = .returned (.bool false) ∧ HsS fb W0 ((ofD p.ds L).any fun y => decide (y.S = S)) W') := by
  have hat := vis_at h.own.2.2.2.2.1 (p := p) k hk
  have hmem : (vis p L)[k] ∈ L := (List.mem_filter.1 (List.getElem_mem hk)).1
  obtain ⟨y, hy⟩ : ∃ y, y = (vis p L)[k] := ⟨_, rfl⟩
  rw [← hy] at hat hmem ⊢
  have hyr : RdB W y.A y.ds.length y.c y.ds := h.rd hI.1.1 (h.own.2.2.2.2.2.1 y hmem)
  have hpr : RdB W p.A p.ds.length p.c p.ds := h.rd hI.1.1 h.pr
  have he := h.keep hI.1.1 h.e (by decide)
  have hx := h.keep hI.1.1 hxb (by decide)
  have hta : ∀ W, (Instr.typeAssert (.iface 90 (.agg #[.slice y.A y.ds.length y.c, .string y.S, .int .u64 y.off])) 111 90 false).run Tryz.prog W = .ok (.agg #[.slice y.A y.ds.length y.c, .string y.S, .int .u64 y.off]) W := fun _ => by kernel_rfl
  have HA : ∀ o, Below W.heap.size W (W.alloc o) := fun o => bel_alloc (Below.refl _ _) o
  have HQ := Kp.mk (fun o => Tryz.bytes_Equal_strs _ _ _ _ (W.alloc o) (rd_string (hyr.below (HA o)) 60 9 Tryz.underlying60 Tryz.underlying9) (rd_string (hpr.below (HA o)) 60 9 Tryz.underlying60 Tryz.underlying9))
  have c0 := fun o => blk_cell (blk_keep he (HA o)) 0
  have x0 := fun o => blk_cell (blk_keep hx (HA o)) 0
  have f0 := fun o => blk_cell (blk_keep hI.1.2 (HA o)) 0
  have z0 := fun o => blk_frozen (blk_keep hI.1.2 (HA o)) 0
  have heq : ((strB y.ds).toList == (strB p.ds).toList) = decide (k < (ofD p.ds L).length) := by
    have e1 : ∀ a : List UInt8, (strB a).toList = a := fun a => by rw [ByteArray.toList_eq]; exact bl_strB a
    rw [e1, e1]
    split at hat
    · rename_i hlt
      rw [hat.1, decide_eq_true hlt]; simp
    · rename_i hlt
      rw [decide_eq_false hlt]; simpa using hat
  have HAT := Kp.mk hat
  have HI := Kp.mk hI
  have HF : Kp (∀ o, HsS fb W0 true ((W.alloc o).setCell ⟨fb, 0, none⟩ (.bool true))) := ⟨fun o => ⟨Ex.setCell (p := ⟨fb, 0, none⟩) (hI.1.1.trans (Ex.of_below (HA o))) (.inl rfl) _, blk_set (blk_keep hI.1.2 (HA o)) 0 _⟩⟩
  have HBA := Kp.mk HA
  rw [heq] at HQ
  clear heq hat hmem hyr hpr he hx hI hy h hxb HA
  unfold Itm.val
  go_enter Tryz.func67, Tryz.ntmps67
  go_wp2_with fail
  refine (HQ.out _).mono ?_
  rintro e w1 ⟨rfl, hw⟩
  subst hw
  by_cases hlt : k < (ofD p.ds L).length
  · rw [decide_eq_true hlt]
    rw [dif_pos hlt] at HAT
    have HLT := Kp.mk hlt
    clear c0
    by_cases hS : y.S = S
    · have hq := bytes_eql y.S S
      rw [decide_eq_true hS] at hq
      have HS : Kp ((ofD p.ds L).any (fun y => decide (y.S = S)) = true) := ⟨List.any_eq_true.2 ⟨_, List.getElem_mem HLT.out, by rw [← HAT.out.2]; exact decide_eq_true hS⟩⟩
      clear hS
      go_wp2_with fail
      go_ret
      exact .inr ⟨rfl, by rw [HS.out]; exact HF.out _⟩
    · have hq := bytes_eql y.S S
      rw [decide_eq_false hS] at hq
      have HS := Kp.mk hS
      clear hS f0 z0
      go_wp2_with fail
      go_ret
      exact .inl ⟨rfl, HI.out.next HLT.out (by rw [← HAT.out.2]; exact decide_eq_false HS.out) (HBA.out _)⟩
  · rw [decide_eq_false hlt]
    have HL : Kp ((ofD p.ds L).any (fun y => decide (y.S = S)) = false) := ⟨by
      have hkl : k = (ofD p.ds L).length := by have := HI.out.2.1; omega
      have h1 := HI.out
      rw [hkl] at h1
      exact h1.all⟩
    clear hlt c0
    go_wp2_with fail
    go_ret
    exact .inr ⟨rfl, by rw [HL.out]; exact HI.out.1.below (HBA.out _)⟩

end Go.Proofs.YtgjocdnpephcgaaGreatDoor
namespace Go.Proofs.YtgjocdnpephcgaaGreatDoor
open Go.RowKit

/-- Its identifier is that of a tidy one, of the multihash M. -/
def HashOf (S : ByteArray) (M : List UInt8) : Prop := ∃ v codec code s, S = strB (cidB v codec code s) ∧ Tidy v codec code s ∧ s.size ≤ 1073741824 ∧ M = mhBytes code (bl s)
/-- What the operations of its line leave. -/
def hmR (W : World) (S : ByteArray) (v4 : Value) (M MH : List UInt8) (j : Nat) (u : Value) (w : World) : Prop :=
  match j with
  | 0 => u = .pointer (some ⟨W.heap.size, 1, none⟩)
  | 1 => u = .pointer (some ⟨W.heap.size, 1, none⟩)
  | 2 => u = .agg #[.string S]
  | 3 => ∃ A n c, u = .slice A n c ∧ RdB w A n c M
  | 4 => u = v4
  | _ => u = .bool (decide (M = MH))

set_option maxHeartbeats 8000000 in
set_option maxRecDepth 100000 in
/-- HasMultihash's closure. -/
theorem hasMh1_calls (B g eb fb xb : Nat) (A : Option Addr) (n c : Nat) (MH : List UInt8) (hf : Itm → List UInt8) (T : LT) (L : List Itm) (hh : ∀ y ∈ L, HashOf y.S (hf y)) (p : Itm) (W0 : World) (h : HsW B g eb fb T L p W0) (hxb : W0.heap[xb]? = some (.cells #[.slice A n c] 78 (0, 0))) (hmh : RdB W0 A n c MH) (hme : ∀ W, Ex (fun j => j = fb ∨ W0.heap.size ≤ j) W0 W → MhErrs W) (k : Nat) (hk : k < (vis p L).length) (W : World) (hI : HsI (fun y => decide (hf y = MH)) fb W0 (ofD p.ds L) k W) :
    Calls Tryz.prog 70 #[(vis p L)[k].val, .pointer (some ⟨eb, 0, none⟩), .pointer (some ⟨xb, 0, none⟩), .pointer (some ⟨fb, 0, none⟩)] W fun e W' =>
      (e = .returned (.bool true) ∧ HsI (fun y => decide (hf y = MH)) fb W0 (ofD p.ds L) (k + 1) W') ∨ (e = .returned (.bool false) ∧ HsS fb W0 ((ofD p.ds L).any fun y => decide (hf y = MH)) W') := by
  have hat := vis_at h.own.2.2.2.2.1 (p := p) k hk
  have hmem : (vis p L)[k] ∈ L := (List.mem_filter.1 (List.getElem_mem hk)).1
  obtain ⟨y, hy⟩ : ∃ y, y = (vis p L)[k] := ⟨_, rfl⟩
  rw [← hy] at hat hmem ⊢
  have hyr : RdB W y.A y.ds.length y.c y.ds := h.rd hI.1.1 (h.own.2.2.2.2.2.1 y hmem)
  have hpr : RdB W p.A p.ds.length p.c p.ds := h.rd hI.1.1 h.pr
  have he := h.keep hI.1.1 h.e (by decide)
  have hx := h.keep hI.1.1 hxb (by decide)
  have hmW : RdB W A n c MH := h.rd hI.1.1 hmh
  have hta : ∀ W, (Instr.typeAssert (.iface 90 (.agg #[.slice y.A y.ds.length y.c, .string y.S, .int .u64 y.off])) 111 90 false).run Tryz.prog W = .ok (.agg #[.slice y.A y.ds.length y.c, .string y.S, .int .u64 y.off]) W := fun _ => by kernel_rfl
  have HA : ∀ o, Below W.heap.size W (W.alloc o) := fun o => bel_alloc (Below.refl _ _) o
  have HQ := Kp.mk (fun o => Tryz.bytes_Equal_strs _ _ _ _ (W.alloc o) (rd_string (hyr.below (HA o)) 60 9 Tryz.underlying60 Tryz.underlying9) (rd_string (hpr.below (HA o)) 60 9 Tryz.underlying60 Tryz.underlying9))
  have c0 := fun o => blk_cell (blk_keep he (HA o)) 0
  have HX := Kp.mk hx
  have HMW := Kp.mk hmW
  have HME := Kp.mk (hme W hI.1.1)
  obtain ⟨v', codec', code', s', hS, hT, hs, hM⟩ := hh y hmem
  have HH := Kp.mk (fun w he => tHash_calls v' codec' code' s' w hT hs he)
  rw [← hS, ← hM] at HH
  have heq : ((strB y.ds).toList == (strB p.ds).toList) = decide (k < (ofD p.ds L).length) := by
    have e1 : ∀ a : List UInt8, (strB a).toList = a := fun a => by rw [ByteArray.toList_eq]; exact bl_strB a
    rw [e1, e1]
    split at hat
    · rename_i hlt
      rw [hat.1, decide_eq_true hlt]; simp
    · rename_i hlt
      rw [decide_eq_false hlt]; simpa using hat
  have HAT := Kp.mk hat
  have HI := Kp.mk hI
  have HF : Kp (∀ W1, Below W.heap.size W W1 → HsS fb W0 true (W1.setCell ⟨fb, 0, none⟩ (.bool true))) := ⟨fun W1 hb => ⟨Ex.setCell (p := ⟨fb, 0, none⟩) (hI.1.1.trans (Ex.of_below hb)) (.inl rfl) _, blk_set (blk_keep hI.1.2 hb) 0 _⟩⟩
  have HBA := Kp.mk HA
  have HNB := Kp.mk (fun o => blk_new (w := W) (o := o) (Below.refl _ _))
  rw [heq] at HQ
  clear heq hat hmem hyr hpr he hx hI hy h hxb HA hmW hme hmh hh hS hT hs hM
  unfold Itm.val
  go_enter Tryz.func70, Tryz.ntmps70
  go_wp2_with fail
  refine (HQ.out _).mono ?_
  rintro e w1 ⟨rfl, hw⟩
  subst hw
  by_cases hlt : k < (ofD p.ds L).length
  · rw [decide_eq_true hlt]
    rw [dif_pos hlt] at HAT
    have HLT := Kp.mk hlt
    clear c0
    have HB1 := Kp.mk (HBA.out (.cells #[.slice y.A y.ds.length y.c, .string y.S, .int .u64 y.off] 90))
    have HN1 := Kp.mk (HNB.out (.cells #[.slice y.A y.ds.length y.c, .string y.S, .int .u64 y.off] 90))
    generalize W.alloc (.cells #[.slice y.A y.ds.length y.c, .string y.S, .int .u64 y.off] 90) = W1 at *
    go_wp2_with fail
    refine wp_region_growR (fun u u' => Below u.heap.size u u') (fun _ => Below.refl _ _) (fun _ _ _ h k => bel_then h k) (by kernel_rfl) 6 (by decide) (apart_of (by kernel_rfl)) (by kernel_rfl) (hmR W y.S (.slice A n c) (hf y) MH) (fun _ _ _ _ => True) ?_ ?_ ?_
    · intro i u a b h hb
      rcases i with _ | _ | _ | _ | _ | i
      · exact h
      · exact h
      · exact h
      · obtain ⟨A', n', c', e, hr⟩ := h
        exact ⟨A', n', c', e, hr.below hb⟩
      · exact h
      · exact h
    · intro j hj ob' ho vs w5 hb5 hpre
      have hb15 := bel_then (bel_drew (Below.refl W1.heap.size W1)) hb5
      have HN5 := Kp.mk (blk_keep HN1.out hb15)
      have HX5 := Kp.mk (blk_keep HX.out (bel_then HB1.out hb15))
      have HM5 := Kp.mk (HMW.out.below (bel_then HB1.out hb15))
      have HE5 := Kp.mk (HME.out.below (bel_then HB1.out hb15))
      clear hb15
      rcases j with _ | _ | _ | _ | _ | _ | j
      · obtain rfl := Option.some.inj ho
        simp only [canon, List.range, List.range.loop, List.foldl]
        go_simp
        exact ⟨rfl, Below.refl _ _⟩
      · have e0 : vs 0 = _ := hpre 0 (by decide) (by obtain rfl := Option.some.inj ho; rfl)
        obtain rfl := Option.some.inj ho
        simp only [canon, List.range, List.range.loop, List.foldl]
        go_simp
        exact ⟨rfl, Below.refl _ _⟩
      · have e1 : vs 1 = _ := hpre 1 (by decide) (by obtain rfl := Option.some.inj ho; rfl)
        have c1 := blk_cell HN5.out 1
        obtain rfl := Option.some.inj ho
        simp only [canon, List.range, List.range.loop, List.foldl]
        go_simp
        exact ⟨rfl, Below.refl _ _⟩
      · have e2 : vs 2 = _ := hpre 2 (by decide) (by obtain rfl := Option.some.inj ho; rfl)
        obtain rfl := Option.some.inj ho
        simp only [canon, List.range, List.range.loop, List.foldl]
        go_simp
        refine (HH.out _ HE5.out).mono ?_
        rintro e6 w6 ⟨⟨A', n', c', rfl, hr⟩, hb⟩
        exact ⟨⟨A', n', c', rfl, hr⟩, hb⟩
      · have c0 := blk_cell HX5.out 0
        obtain rfl := Option.some.inj ho
        simp only [canon, List.range, List.range.loop, List.foldl]
        go_simp
        exact ⟨rfl, Below.refl _ _⟩
      · obtain ⟨A', n', c', e3, hr3⟩ : ∃ A n c, vs 3 = .slice A n c ∧ RdB w5 A n c (hf y) := hpre 3 (by decide) (by obtain rfl := Option.some.inj ho; rfl)
        have e4 : vs 4 = _ := hpre 4 (by decide) (by obtain rfl := Option.some.inj ho; rfl)
        have HQ5 := Kp.mk (Tryz.bytes_Equal_strs _ _ _ _ w5 (rd_string hr3 60 9 Tryz.underlying60 Tryz.underlying9) (rd_string HM5.out 60 9 Tryz.underlying60 Tryz.underlying9))
        clear hr3
        obtain rfl := Option.some.inj ho
        simp only [canon, List.range, List.range.loop, List.foldl]
        go_simp
        refine HQ5.out.mono ?_
        rintro e6 w6 ⟨rfl, hw⟩
        subst hw
        refine ⟨?_, Below.refl _ _⟩
        show Value.bool _ = Value.bool _
        have e1 : ∀ a : List UInt8, (strB a).toList = a := fun a => by rw [ByteArray.toList_eq]; exact bl_strB a
        rw [e1, e1]
        congr 1
        by_cases hq : hf y = MH
        · simp [hq]
        · simp [hq]
      · omega
    · intro vs w5 hb5 hr _
      have e5 : vs 5 = _ := hr 5 (by omega)
      have hb05 := bel_then HB1.out (bel_then (bel_drew (Below.refl W1.heap.size W1)) hb5)
      have HB5 := Kp.mk hb05
      have f0 := blk_cell (blk_keep HI.out.1.2 hb05) 0
      have z0 := blk_frozen (blk_keep HI.out.1.2 hb05) 0
      have HF5 := Kp.mk (HF.out w5 hb05)
      clear hb5 hr hb05
      refine wpAny_none (by kernel_rfl) ?_ _
      by_cases hS : hf y = MH
      · rw [decide_eq_true hS] at e5
        have HS : Kp ((ofD p.ds L).any (fun y => decide (hf y = MH)) = true) := ⟨List.any_eq_true.2 ⟨_, List.getElem_mem HLT.out, by rw [← HAT.out.2]; exact decide_eq_true hS⟩⟩
        clear hS
        simp only [canon, List.range, List.range.loop, List.foldl]
        go_simp
        go_wp2_with fail
        go_ret
        exact .inr ⟨rfl, by rw [HS.out]; exact HF5.out⟩
      · rw [decide_eq_false hS] at e5
        have HS := Kp.mk hS
        clear hS f0 z0
        simp only [canon, List.range, List.range.loop, List.foldl]
        go_simp
        go_wp2_with fail
        go_ret
        exact .inl ⟨rfl, HI.out.next HLT.out (by rw [← HAT.out.2]; exact decide_eq_false HS.out) HB5.out⟩
  · rw [decide_eq_false hlt]
    have HL : Kp ((ofD p.ds L).any (fun y => decide (hf y = MH)) = false) := ⟨by
      have hkl : k = (ofD p.ds L).length := by have := HI.out.2.1; omega
      have h1 := HI.out
      rw [hkl] at h1
      exact h1.all⟩
    clear hlt c0
    go_wp2_with fail
    go_ret
    exact .inr ⟨rfl, by rw [HL.out]; exact HI.out.1.below (HBA.out _)⟩

end Go.Proofs.YtgjocdnpephcgaaGreatDoor
namespace Go.Proofs.YtgjocdnpephcgaaGreatDoor
open Go.RowKit

theorem any_ofD (D : List UInt8) (f : Itm → Bool) (F : List UInt8 × ByteArray × Nat → Bool) (hf : ∀ y, F (Itm.key y) = f y) (L : List Itm) : (ofD D L).any f = (L.map Itm.key).any fun y => decide (y.1 = D) && F y := by
  unfold ofD
  rw [List.any_filter, List.any_map]
  congr 1
  funext y
  show (decide (y.ds = D) && f y) = (decide (y.key.1 = D) && F y.key)
  rw [hf]
  rfl

set_option maxHeartbeats 8000000 in
set_option maxRecDepth 100000 in
/-- HasExactCID. -/
theorem hasEx_calls (B g v codec code : Nat) (s : ByteArray) (K : List (List UInt8 × ByteArray × Nat)) (w : World) (hO : OwnK B w g K) (h : Tidy v codec code s) (hs : s.size ≤ 1073741824) (he : MhErrs w) :
    Calls Tryz.prog 42 #[.pointer (some ⟨g, 0, none⟩), .agg #[.string (strB (cidB v codec code s))]] w fun e w' => e = .returned (.tuple #[.bool (K.any fun y => decide (y.1 = bl s) && decide (y.2.1 = strB (cidB v codec code s))), .nilIface]) ∧ Below w.heap.size w w' := by
  have HH := Kp.mk (fun w he => tHash_calls v codec code s w h hs he)
  have hmf : ∀ (fn : Fn) (first cap : Array Value) (w : World), (Instr.makeFunc fn first cap).run Tryz.prog w = .ok (.func fn first cap) w := fun _ _ _ _ => rfl
  have hlb := bl_length s
  have hmh : mhRead (mhBytes code (bl s)) = some (code, bl s, (mhBytes code (bl s)).length) := by
    have := mhRead_mhBytes (code := code) (d := bl s) [] (by rcases h with ⟨_, _, rfl, _⟩ | ⟨_, _, h⟩ <;> omega) (by omega)
    rwa [List.append_nil] at this
  have hmn : (mhBytes code (bl s)).length ≤ 2147483647 := by
    have a := Lib.uvarint_length64 (x := code) (by rcases h with ⟨_, _, rfl, _⟩ | ⟨_, _, h⟩ <;> omega)
    have b := Lib.uvarint_length64 (x := (bl s).length) (by omega)
    simp only [mhBytes, List.length_append]
    omega
  have HM := Kp.mk (And.intro hmh hmn)
  have HE := Kp.mk he
  have HO := Kp.mk hO
  obtain ⟨D, hD⟩ : ∃ D, D = bl s := ⟨_, rfl⟩
  rw [← hD] at HM HH ⊢
  clear hmh hmn he h hO hlb hs hD
  generalize strB (cidB v codec code s) = S at *
  go_enter Tryz.func42, Tryz.ntmps42
  have HB0 := Kp.mk (fun o => bel_alloc (Below.refl w.heap.size w) o)
  have HN0 := Kp.mk (fun o => blk_new (w := w) (o := o) (Below.refl _ _))
  go_wp2_with fail
  refine (HH.out _ (HE.out.below (HB0.out _))).mono ?_
  rintro e w1 ⟨⟨A, n, c, rfl, hr⟩, hb⟩
  have hn := hr.len
  have HB1 := Kp.mk (bel_then (HB0.out _) hb)
  have HF1 := Kp.mk (blk_keep (HN0.out _) hb)
  have HD := Kp.mk (decodeP_calls A n c _ w1 hr (HE.out.below HB1.out) (by have := HM.out.2; omega))
  have HA := Kp.mk hr
  clear hb hr HH HB0 HN0
  go_wp2_with fail
  refine HD.out.mono ?_
  rintro e w2 ⟨hu, hb⟩
  unfold DdEnd at hu
  rw [HM.out.1] at hu
  simp only [if_true] at hu
  obtain ⟨gd, A', c', rfl, hgd, hblk, hp⟩ := hu
  have HB2 := Kp.mk (bel_then HB1.out hb)
  have HF2 := Kp.mk (blk_keep HF1.out hb)
  have HG2 := Kp.mk hblk
  have HA2 := Kp.mk (hp w2 (HA.out.below hb))
  clear hb hblk hp HD HA HF1 HB1 hn hgd
  have c3 := fun o => blk_cell (blk_keep HG2.out (bel_alloc (Below.refl _ _) o)) 3
  have c3' := blk_cell HG2.out 3
  go_wp2_with fail
  clear c3 c3'
  obtain ⟨p, hp⟩ : ∃ p : Itm, p = ⟨A', c', D, ⟨#[]⟩, 0⟩ := ⟨_, rfl⟩
  have hk1 := blk_new (w := w2) (o := .cells #[.slice p.A p.ds.length p.c, .string p.S, .int .u64 p.off] 90) (bel_alloc (Below.refl _ _) (.cells #[.bool false] 4))
  have hk2 := blk_new2 (w := w2) (o := .cells #[.slice p.A p.ds.length p.c, .string p.S, .int .u64 p.off] 90) (o2 := .cells #[.bool false] 4) (Below.refl _ _)
  have hbA := bel_alloc (bel_alloc (Below.refl w2.heap.size w2) (.cells #[.slice p.A p.ds.length p.c, .string p.S, .int .u64 p.off] 90)) (.cells #[.bool false] 4)
  rw [show (.cells #[.slice A' D.length c', .string ⟨#[]⟩, .int .u64 0] 90 : Obj) = .cells #[.slice p.A p.ds.length p.c, .string p.S, .int .u64 p.off] 90 by rw [hp]; rfl]
  generalize (w2.alloc (.cells #[.slice p.A p.ds.length p.c, .string p.S, .int .u64 p.off] 90)).alloc (.cells #[.bool false] 4) = w3 at *
  have HK1 := Kp.mk hk1
  have HK2 := Kp.mk hk2
  have HBA := Kp.mk hbA
  have HP := Kp.mk hp
  clear hk1 hk2 hbA hp
  refine wp_region_growR (fun u u' => Below u.heap.size u u') (fun _ => Below.refl _ _) (fun _ _ _ h k => bel_then h k) (by kernel_rfl) 6 (by decide) (apart_of (by kernel_rfl)) (by kernel_rfl) (gaR g p (.func (.func 67) #[] #[.pointer (some ⟨w2.heap.size, 0, none⟩), .pointer (some ⟨w.heap.size, 0, none⟩), .pointer (some ⟨w2.heap.size + 1, 0, none⟩)])) (fun _ _ _ _ => True) (fun _ _ _ _ h _ => by unfold gaR at *; exact h) ?_ ?_
  · intro j hj ob' ho vs w5 hb5 hpre
    have HK5 := Kp.mk (blk_keep HK1.out (bel_then (bel_drew (Below.refl _ _)) hb5))
    rcases j with _ | _ | _ | _ | _ | _ | j
    · obtain rfl := Option.some.inj ho
      simp only [canon, List.range, List.range.loop, List.foldl]
      go_simp
      exact ⟨rfl, Below.refl _ _⟩
    · have e0 : vs 0 = _ := hpre 0 (by decide) (by obtain rfl := Option.some.inj ho; rfl)
      obtain rfl := Option.some.inj ho
      simp only [canon, List.range, List.range.loop, List.foldl]
      go_simp
      exact ⟨rfl, Below.refl _ _⟩
    · have e1 : vs 1 = _ := hpre 1 (by decide) (by obtain rfl := Option.some.inj ho; rfl)
      obtain rfl := Option.some.inj ho
      simp only [canon, List.range, List.range.loop, List.foldl]
      go_simp
      exact ⟨rfl, Below.refl _ _⟩
    · have c0 := blk_cell HK5.out 0
      have c1 := blk_cell HK5.out 1
      have c2 := blk_cell HK5.out 2
      obtain rfl := Option.some.inj ho
      simp only [canon, List.range, List.range.loop, List.foldl]
      go_simp
      exact ⟨rfl, Below.refl _ _⟩
    · have e3 : vs 3 = _ := hpre 3 (by decide) (by obtain rfl := Option.some.inj ho; rfl)
      obtain rfl := Option.some.inj ho
      simp only [canon, List.range, List.range.loop, List.foldl]
      go_simp
      exact ⟨rfl, Below.refl _ _⟩
    · obtain rfl := Option.some.inj ho
      simp only [canon, List.range, List.range.loop, List.foldl]
      go_simp
      exact ⟨rfl, Below.refl _ _⟩
    · omega
  · intro vs w5 hb5 hr _
    have e2 : vs 2 = _ := hr 2 (by omega)
    have e4 : vs 4 = _ := hr 4 (by omega)
    have e5 : vs 5 = _ := hr 5 (by omega)
    have hb35 := bel_then (bel_drew (Below.refl w3.heap.size w3)) hb5
    have hb25 : Below w2.heap.size w2 w5 := bel_then HBA.out hb35
    have hb05 : Below w.heap.size w w5 := bel_then HB2.out hb25
    obtain ⟨L, ⟨T, hT⟩, hK⟩ := HO.out.below hb05
    have hGW : HsW B g w2.heap.size (w2.heap.size + 1) T L p w5 := ⟨hT, by rw [HP.out]; exact HA2.out.below hb25, blk_keep HK1.out hb35, blk_keep HK2.out hb35⟩
    have hxb := blk_keep HF2.out hb25
    have hpd : p.ds = D := by rw [HP.out]
    have hI0 : HsI (fun y => decide (y.S = S)) (w2.heap.size + 1) w5 (ofD p.ds L) 0 w5 := ⟨⟨Ex.refl _ _, hGW.f⟩, Nat.zero_le _, fun y hy => by simp at hy⟩
    have hA := ascend3_calls g 67 (.pointer (some ⟨w2.heap.size, 0, none⟩)) (.pointer (some ⟨w.heap.size, 0, none⟩)) (.pointer (some ⟨w2.heap.size + 1, 0, none⟩)) p (vis p L)
      (enters_of Tryz.func67 (by kernel_rfl) rfl)
      (fun k W => HsI (fun y => decide (y.S = S)) (w2.heap.size + 1) w5 (ofD p.ds L) k W) (fun W => HsS (w2.heap.size + 1) w5 ((ofD p.ds L).any (fun y => decide (y.S = S))) W)
      (fun k W W' h hb => ⟨h.1.below hb, h.2⟩)
      (fun k hk W h => hasEx1_calls B g w2.heap.size (w2.heap.size + 1) w.heap.size S T L p w5 hGW hxb k hk W h)
      T (by rw [hT.2.2.2.1]; exact hT.2.2.2.2.1) (fun k W h => ⟨hGW.tree h.1.1, fun z hz => hGW.rd h.1.1 (hT.2.2.2.2.2.1 z (by rw [hT.2.2.2.1] at hz; exact hz)), hGW.rd h.1.1 hGW.pr⟩) (by rw [hT.2.2.2.1]) w5 hI0 _ hT.1
    have hany : (ofD p.ds L).any (fun y => decide (y.S = S)) = K.any fun y => decide (y.1 = D) && decide (y.2.1 = S) := by
      rw [any_ofD p.ds (fun y => decide (y.S = S)) (fun y => decide (y.2.1 = S)) (fun _ => rfl) L, hK, hpd]
    have hfin : ∀ W, HsI (fun y => decide (y.S = S)) (w2.heap.size + 1) w5 (ofD p.ds L) (vis p L).length W ∨ HsS (w2.heap.size + 1) w5 ((ofD p.ds L).any (fun y => decide (y.S = S))) W →
        HsS (w2.heap.size + 1) w5 ((ofD p.ds L).any (fun y => decide (y.S = S))) W := by
      intro W h
      rcases h with h | h
      · have hv : (vis p L).length = (ofD p.ds L).length := by
          have := vis_split (p := p) hT.2.2.2.2.1
          have h4 : (ofD p.ds L).length ≤ (vis p L).length := by rw [this, List.length_append]; exact Nat.le_add_right _ _
          have := h.2.1
          omega
        rw [hv] at h
        rw [h.all]
        exact h.1
      · exact h
    rw [hany] at hfin
    obtain ⟨b, hb⟩ : ∃ b, b = K.any fun y => decide (y.1 = D) && decide (y.2.1 = S) := ⟨_, rfl⟩
    rw [← hb] at hfin
    have HBV := Kp.mk hb
    have HFIN := Kp.mk hfin
    have HAS := Kp.mk hA
    have HB5 := Kp.mk hb05
    have HSZ := Kp.mk (Nat.le_trans HB2.out.size (Nat.le_succ w2.heap.size))
    have HANY := Kp.mk hany
    rw [← hb] at HANY
    clear hb5 hr hb35 hb25 hb05 hT hK hGW hI0 hA hfin hpd hany hb hxb
    simp only [canon, List.range, List.range.loop, List.foldl]
    refine wpAny_last 6 (by kernel_rfl) ?_
    refine wpOp_go rfl rfl ?_
    go_simp
    refine HAS.out.mono ?_
    rintro e w6 ⟨rfl, hf⟩
    rw [HANY.out] at hf
    have HS := Kp.mk (HFIN.out w6 hf)
    clear hf HAS HFIN
    have HW : Kp (Below w.heap.size w w6) := ⟨HB5.out.trans (HS.out.1.toBelow (fun k hk hq => hq.elim (fun e => by have := HSZ.out; omega) (fun e => by have := HB5.out.size; omega)) HB5.out.size)⟩
    have ha := blk_cell HS.out.2 0
    simp only
    refine wpAny_none (by kernel_rfl) ?_ _
    go_wp2
    refine bodyPost_ret (results_tmp2 rfl _ _ _) rfl ?_
    rw [← HBV.out]
    exact ⟨rfl, HW.out⟩

set_option maxHeartbeats 8000000 in
set_option maxRecDepth 100000 in
/-- HasMultihash. -/
theorem hasMh_calls (B g code : Nat) (s : ByteArray) (A : Option Addr) (n c : Nat) (hfK : ByteArray → List UInt8) (K : List (List UInt8 × ByteArray × Nat)) (w : World) (hO : OwnK B w g K) (hh : ∀ y ∈ K, HashOf y.2.1 (hfK y.2.1)) (hc : code < 2 ^ 63) (hs : s.size ≤ 1073741824) (hr : RdB w A n c (mhBytes code (bl s))) (he : MhErrs w) :
    Calls Tryz.prog 43 #[.pointer (some ⟨g, 0, none⟩), .slice A n c] w fun e w' => e = .returned (.tuple #[.bool (K.any fun y => decide (y.1 = bl s) && decide (hfK y.2.1 = mhBytes code (bl s))), .nilIface]) ∧ Below w.heap.size w w' := by
  have hmf : ∀ (fn : Fn) (first cap : Array Value) (w : World), (Instr.makeFunc fn first cap).run Tryz.prog w = .ok (.func fn first cap) w := fun _ _ _ _ => rfl
  have hlb := bl_length s
  have hmh : mhRead (mhBytes code (bl s)) = some (code, bl s, (mhBytes code (bl s)).length) := by
    have := mhRead_mhBytes (code := code) (d := bl s) [] (by omega) (by omega)
    rwa [List.append_nil] at this
  have hmn : (mhBytes code (bl s)).length ≤ 2147483647 := by
    have a := Lib.uvarint_length64 (x := code) (by omega)
    have b := Lib.uvarint_length64 (x := (bl s).length) (by omega)
    simp only [mhBytes, List.length_append]
    omega
  have HM := Kp.mk (And.intro hmh hmn)
  have HE := Kp.mk he
  have HO := Kp.mk hO
  obtain ⟨D, hD⟩ : ∃ D, D = bl s := ⟨_, rfl⟩
  rw [← hD] at HM hr ⊢
  have HR0 := Kp.mk hr
  have HHK := Kp.mk hh
  clear hmh hmn he hO hlb hs hD hr hh hc
  generalize mhBytes code D = M at *
  go_enter Tryz.func43, Tryz.ntmps43
  have HB0 := Kp.mk (fun o => bel_alloc (Below.refl w.heap.size w) o)
  have HN0 := Kp.mk (fun o => blk_new (w := w) (o := o) (Below.refl _ _))
  go_wp2_with fail
  obtain ⟨w1, hw1⟩ : ∃ W, W = w.alloc (.cells #[.slice A n c] 78) := ⟨_, rfl⟩
  have HB1 := Kp.mk (HB0.out (.cells #[.slice A n c] 78))
  have HF1 := Kp.mk (HN0.out (.cells #[.slice A n c] 78))
  rw [← hw1] at HB1 HF1 ⊢
  have HA := Kp.mk (HR0.out.below HB1.out)
  have hn := HA.out.len
  have HD := Kp.mk (decodeP_calls A n c _ w1 HA.out (HE.out.below HB1.out) (by have := HM.out.2; omega))
  clear HB0 HN0 hw1
  refine HD.out.mono ?_
  rintro e w2 ⟨hu, hb⟩
  unfold DdEnd at hu
  rw [HM.out.1] at hu
  simp only [if_true] at hu
  obtain ⟨gd, A', c', rfl, hgd, hblk, hp⟩ := hu
  have HB2 := Kp.mk (bel_then HB1.out hb)
  have HF2 := Kp.mk (blk_keep HF1.out hb)
  have HG2 := Kp.mk hblk
  have HA2 := Kp.mk (hp w2 (HA.out.below hb))
  have HAM := Kp.mk (HA.out.below hb)
  clear hb hblk hp HD HA HF1 HB1 hn hgd
  have c3 := fun o => blk_cell (blk_keep HG2.out (bel_alloc (Below.refl _ _) o)) 3
  have c3' := blk_cell HG2.out 3
  go_wp2_with fail
  clear c3 c3'
  obtain ⟨p, hp⟩ : ∃ p : Itm, p = ⟨A', c', D, ⟨#[]⟩, 0⟩ := ⟨_, rfl⟩
  have hk1 := blk_new (w := w2) (o := .cells #[.slice p.A p.ds.length p.c, .string p.S, .int .u64 p.off] 90) (bel_alloc (Below.refl _ _) (.cells #[.bool false] 4))
  have hk2 := blk_new2 (w := w2) (o := .cells #[.slice p.A p.ds.length p.c, .string p.S, .int .u64 p.off] 90) (o2 := .cells #[.bool false] 4) (Below.refl _ _)
  have hbA := bel_alloc (bel_alloc (Below.refl w2.heap.size w2) (.cells #[.slice p.A p.ds.length p.c, .string p.S, .int .u64 p.off] 90)) (.cells #[.bool false] 4)
  rw [show (.cells #[.slice A' D.length c', .string ⟨#[]⟩, .int .u64 0] 90 : Obj) = .cells #[.slice p.A p.ds.length p.c, .string p.S, .int .u64 p.off] 90 by rw [hp]; rfl]
  generalize (w2.alloc (.cells #[.slice p.A p.ds.length p.c, .string p.S, .int .u64 p.off] 90)).alloc (.cells #[.bool false] 4) = w3 at *
  have HK1 := Kp.mk hk1
  have HK2 := Kp.mk hk2
  have HBA := Kp.mk hbA
  have HP := Kp.mk hp
  clear hk1 hk2 hbA hp
  refine wp_region_growR (fun u u' => Below u.heap.size u u') (fun _ => Below.refl _ _) (fun _ _ _ h k => bel_then h k) (by kernel_rfl) 6 (by decide) (apart_of (by kernel_rfl)) (by kernel_rfl) (gaR g p (.func (.func 70) #[] #[.pointer (some ⟨w2.heap.size, 0, none⟩), .pointer (some ⟨w.heap.size, 0, none⟩), .pointer (some ⟨w2.heap.size + 1, 0, none⟩)])) (fun _ _ _ _ => True) (fun _ _ _ _ h _ => by unfold gaR at *; exact h) ?_ ?_
  · intro j hj ob' ho vs w5 hb5 hpre
    have HK5 := Kp.mk (blk_keep HK1.out (bel_then (bel_drew (Below.refl _ _)) hb5))
    rcases j with _ | _ | _ | _ | _ | _ | j
    · obtain rfl := Option.some.inj ho
      simp only [canon, List.range, List.range.loop, List.foldl]
      go_simp
      exact ⟨rfl, Below.refl _ _⟩
    · have e0 : vs 0 = _ := hpre 0 (by decide) (by obtain rfl := Option.some.inj ho; rfl)
      obtain rfl := Option.some.inj ho
      simp only [canon, List.range, List.range.loop, List.foldl]
      go_simp
      exact ⟨rfl, Below.refl _ _⟩
    · have e1 : vs 1 = _ := hpre 1 (by decide) (by obtain rfl := Option.some.inj ho; rfl)
      obtain rfl := Option.some.inj ho
      simp only [canon, List.range, List.range.loop, List.foldl]
      go_simp
      exact ⟨rfl, Below.refl _ _⟩
    · have c0 := blk_cell HK5.out 0
      have c1 := blk_cell HK5.out 1
      have c2 := blk_cell HK5.out 2
      obtain rfl := Option.some.inj ho
      simp only [canon, List.range, List.range.loop, List.foldl]
      go_simp
      exact ⟨rfl, Below.refl _ _⟩
    · have e3 : vs 3 = _ := hpre 3 (by decide) (by obtain rfl := Option.some.inj ho; rfl)
      obtain rfl := Option.some.inj ho
      simp only [canon, List.range, List.range.loop, List.foldl]
      go_simp
      exact ⟨rfl, Below.refl _ _⟩
    · obtain rfl := Option.some.inj ho
      simp only [canon, List.range, List.range.loop, List.foldl]
      go_simp
      exact ⟨rfl, Below.refl _ _⟩
    · omega
  · intro vs w5 hb5 hr _
    have e2 : vs 2 = _ := hr 2 (by omega)
    have e4 : vs 4 = _ := hr 4 (by omega)
    have e5 : vs 5 = _ := hr 5 (by omega)
    have hb35 := bel_then (bel_drew (Below.refl w3.heap.size w3)) hb5
    have hb25 : Below w2.heap.size w2 w5 := bel_then HBA.out hb35
    have hb05 : Below w.heap.size w w5 := bel_then HB2.out hb25
    obtain ⟨L, ⟨T, hT⟩, hK⟩ := HO.out.below hb05
    have hGW : HsW B g w2.heap.size (w2.heap.size + 1) T L p w5 := ⟨hT, by rw [HP.out]; exact HA2.out.below hb25, blk_keep HK1.out hb35, blk_keep HK2.out hb35⟩
    have hxb := blk_keep HF2.out hb25
    have hpd : p.ds = D := by rw [HP.out]
    have hI0 : HsI (fun y => decide (hfK y.S = M)) (w2.heap.size + 1) w5 (ofD p.ds L) 0 w5 := ⟨⟨Ex.refl _ _, hGW.f⟩, Nat.zero_le _, fun y hy => by simp at hy⟩
    have hhL : ∀ y ∈ L, HashOf y.S (hfK y.S) := fun y hy => HHK.out y.key (by rw [← hK]; exact List.mem_map.2 ⟨y, hy, rfl⟩)
    have hmL := HAM.out.below hb25
    have hfl : w.heap.size ≤ w2.heap.size + 1 := Nat.le_trans HB2.out.size (Nat.le_succ _)
    have hme : ∀ W, Ex (fun j => j = w2.heap.size + 1 ∨ w5.heap.size ≤ j) w5 W → MhErrs W := fun W hx => HE.out.below (hb05.trans (hx.toBelow (fun k hk hq => hq.elim (fun e => by omega) (fun e => by have := hb05.size; omega)) hb05.size))
    have hA := ascend3_calls g 70 (.pointer (some ⟨w2.heap.size, 0, none⟩)) (.pointer (some ⟨w.heap.size, 0, none⟩)) (.pointer (some ⟨w2.heap.size + 1, 0, none⟩)) p (vis p L)
      (enters_of Tryz.func70 (by kernel_rfl) rfl)
      (fun k W => HsI (fun y => decide (hfK y.S = M)) (w2.heap.size + 1) w5 (ofD p.ds L) k W) (fun W => HsS (w2.heap.size + 1) w5 ((ofD p.ds L).any (fun y => decide (hfK y.S = M))) W)
      (fun k W W' h hb => ⟨h.1.below hb, h.2⟩)
      (fun k hk W h => hasMh1_calls B g w2.heap.size (w2.heap.size + 1) w.heap.size A n c M (fun y => hfK y.S) T L hhL p w5 hGW hxb hmL hme k hk W h)
      T (by rw [hT.2.2.2.1]; exact hT.2.2.2.2.1) (fun k W h => ⟨hGW.tree h.1.1, fun z hz => hGW.rd h.1.1 (hT.2.2.2.2.2.1 z (by rw [hT.2.2.2.1] at hz; exact hz)), hGW.rd h.1.1 hGW.pr⟩) (by rw [hT.2.2.2.1]) w5 hI0 _ hT.1
    have hany : (ofD p.ds L).any (fun y => decide (hfK y.S = M)) = K.any fun y => decide (y.1 = D) && decide (hfK y.2.1 = M) := by
      rw [any_ofD p.ds (fun y => decide (hfK y.S = M)) (fun y => decide (hfK y.2.1 = M)) (fun _ => rfl) L, hK, hpd]
    have hfin : ∀ W, HsI (fun y => decide (hfK y.S = M)) (w2.heap.size + 1) w5 (ofD p.ds L) (vis p L).length W ∨ HsS (w2.heap.size + 1) w5 ((ofD p.ds L).any (fun y => decide (hfK y.S = M))) W →
        HsS (w2.heap.size + 1) w5 ((ofD p.ds L).any (fun y => decide (hfK y.S = M))) W := by
      intro W h
      rcases h with h | h
      · have hv : (vis p L).length = (ofD p.ds L).length := by
          have := vis_split (p := p) hT.2.2.2.2.1
          have h4 : (ofD p.ds L).length ≤ (vis p L).length := by rw [this, List.length_append]; exact Nat.le_add_right _ _
          have := h.2.1
          omega
        rw [hv] at h
        rw [h.all]
        exact h.1
      · exact h
    rw [hany] at hfin
    obtain ⟨b, hb⟩ : ∃ b, b = K.any fun y => decide (y.1 = D) && decide (hfK y.2.1 = M) := ⟨_, rfl⟩
    rw [← hb] at hfin
    have HBV := Kp.mk hb
    have HFIN := Kp.mk hfin
    have HAS := Kp.mk hA
    have HB5 := Kp.mk hb05
    have HSZ := Kp.mk (Nat.le_trans HB2.out.size (Nat.le_succ w2.heap.size))
    have HANY := Kp.mk hany
    rw [← hb] at HANY
    clear hb5 hr hb35 hb25 hb05 hT hK hGW hI0 hA hfin hpd hany hb hxb hhL hmL hme hfl
    simp only [canon, List.range, List.range.loop, List.foldl]
    refine wpAny_last 6 (by kernel_rfl) ?_
    refine wpOp_go rfl rfl ?_
    go_simp
    refine HAS.out.mono ?_
    rintro e w6 ⟨rfl, hf⟩
    rw [HANY.out] at hf
    have HS := Kp.mk (HFIN.out w6 hf)
    clear hf HAS HFIN
    have HW : Kp (Below w.heap.size w w6) := ⟨HB5.out.trans (HS.out.1.toBelow (fun k hk hq => hq.elim (fun e => by have := HSZ.out; omega) (fun e => by have := HB5.out.size; omega)) HB5.out.size)⟩
    have ha := blk_cell HS.out.2 0
    simp only
    refine wpAny_none (by kernel_rfl) ?_ _
    go_wp2
    refine bodyPost_ret (results_tmp2 rfl _ _ _) rfl ?_
    rw [← HBV.out]
    exact ⟨rfl, HW.out⟩


end Go.Proofs.YtgjocdnpephcgaaGreatDoor
namespace Go.Proofs.YtgjocdnpephcgaaGreatDoor
open Go.RowKit

theorem keysOf_mem (x : List UInt8 × ByteArray × Nat) (es : List Ent) : x ∈ keysOf es ↔ ∃ e ∈ es, e.key = x := by
  have h : ∀ (es : List Ent) K, x ∈ es.foldl (fun K e => insK e.key K) K ↔ x ∈ K ∨ ∃ e ∈ es, e.key = x := fun es => by
    induction es with
    | nil => intro K; simp
    | cons e es ih =>
      intro K
      rw [List.foldl_cons, ih, (insK_perm e.key K).mem_iff, List.mem_cons]
      constructor
      · rintro ((rfl | h) | ⟨f, hf, rfl⟩)
        · exact .inr ⟨e, List.mem_cons_self, rfl⟩
        · exact .inl h
        · exact .inr ⟨f, List.mem_cons_of_mem _ hf, rfl⟩
      · rintro (h | ⟨f, hf, rfl⟩)
        · exact .inl (.inr h)
        · rcases List.mem_cons.1 hf with rfl | hf
          · exact .inl (.inl rfl)
          · exact .inr ⟨f, hf, rfl⟩
  have := h es []
  rw [show es.foldl (fun K e => insK e.key K) [] = keysOf es from rfl] at this
  simpa using this
/-- The multihash of an identifier. -/
def hashK (S : ByteArray) : List UInt8 :=
  match cdRead (bl S) with
  | some (_, _, code, d, _) => mhBytes code d
  | none => []
theorem hashK_eq {v codec code : Nat} {s : ByteArray} (h : Tidy v codec code s) (hs : s.size ≤ 1073741824) : hashK (strB (cidB v codec code s)) = mhBytes code (bl s) := by
  have := h.read (by omega) []
  rw [List.append_nil] at this
  unfold hashK
  rw [bl_strB, this]
theorem hash_ok {es : List Ent} (hok : ∀ e ∈ es, e.ok) : ∀ y ∈ keysOf es, HashOf y.2.1 (hashK y.2.1) := by
  intro y hy
  obtain ⟨e, he, rfl⟩ := (keysOf_mem y es).1 hy
  obtain ⟨h1, _, h2⟩ := hok e he
  exact ⟨e.v, e.codec, e.code, e.s, rfl, h1, by omega, hashK_eq h1 (by omega)⟩


















































































end Go.Proofs.YtgjocdnpephcgaaGreatDoor
