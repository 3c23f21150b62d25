/- Some texts in one: IiAll1, GetAll1, GetAll, IiAll. -/
import Derived.Test.YtgjocdnpephcgaaDoorAsc
import Derived.Test.YtgjocdnpephcgaaDoorIxA
import Derived.Lib.AppendZerosOnto
import Derived.Test.YtgjocdnpephcgaaDoorErrLaid
namespace Go.Proofs.YtgjocdnpephcgaaDoor
open Go.RowKit

/-- Block ob holds a slice of the call's own with these numbers; its row lies at base or above. -/
def OutAt (base ob : Nat) (w : World) (xs : List Nat) : Prop :=
  ∃ A cap, w.heap[ob]? = some (.cells #[.slice A xs.length cap] 30 (0, 0)) ∧ w.ownsRow base 25 1 (.slice A xs.length cap) xs.length (xs.map fun (y : Nat) => Value.int .u64 (y : Int))
theorem ownsRow_below {base n : Nat} {e : TypeId} {v : Value} {xs : List Value} {w w1 : World} (h : w.ownsRow base e 1 v n xs) (hb : Below w.heap.size w w1) : w1.ownsRow base e 1 v n xs := by
  obtain ⟨h1, h2⟩ := h
  refine ⟨h1, h2.imp id ?_⟩
  rintro ⟨g, cap, cur, rfl, h3, h4, h5⟩
  exact ⟨g, cap, cur, rfl, h3, blk_keep h4 hb, h5⟩
theorem OutAt.below {base ob : Nat} {w w1 : World} {xs : List Nat} (h : OutAt base ob w xs) (hb : Below w.heap.size w w1) : OutAt base ob w1 xs := by
  obtain ⟨A, cap, h1, h2⟩ := h
  exact ⟨A, cap, blk_keep h1 hb, ownsRow_below h2 hb⟩
theorem ownsRow_ex {P : Nat → Prop} {base n : Nat} {e : TypeId} {v : Value} {xs : List Value} {w w1 : World} (h : w.ownsRow base e 1 v n xs) (hb : Ex P w w1) (hP : ∀ k, base ≤ k → ¬ P k) : w1.ownsRow base e 1 v n xs := by
  obtain ⟨h1, h2⟩ := h
  refine ⟨h1, h2.imp id ?_⟩
  rintro ⟨g, cap, cur, rfl, h3, h4, h5⟩
  exact ⟨g, cap, cur, rfl, h3, hb.keep h4 (hP g h3), h5⟩
theorem OutAt.ex {P : Nat → Prop} {base ob : Nat} {w w1 : World} {xs : List Nat} (h : OutAt base ob w xs) (hb : Ex P w w1) (h1 : ¬ P ob) (hP : ∀ k, base ≤ k → ¬ P k) : OutAt base ob w1 xs := by
  obtain ⟨A, cap, h2, h3⟩ := h
  exact ⟨A, cap, hb.keep h2 h1, ownsRow_ex h3 hb hP⟩
theorem info_u64 : (Tryd.prog.info? 25).map (fun i => (i.zero, i.size, i.bytes)) = some (some (.int .u64 0), 1, 8) := by kernel_rfl

/-- An append of one number. -/
theorem append_num (base k x : Nat) (A : Option Addr) (cap : Nat) (xs : List Nat) (hk : k = xs.length) (w : World) (h : w.ownsRow base 25 1 (.slice A k cap) k (xs.map fun (y : Nat) => Value.int .u64 (y : Int))) (hb : base ≤ w.heap.size) (hl : k ≤ 1000) (gx : Nat) (hx : w.cell? ⟨gx, 0, none⟩ = some (.int .u64 x)) :
    ∃ A' cap' w', (Builtin.append_ #[30, 30] 30 #[.slice A k cap, .slice (some ⟨gx, 0, none⟩) 1 1]).run Tryd.prog w = .ok (.slice A' (k + 1) cap') w'
      ∧ w'.ownsRow base 25 1 (.slice A' (k + 1) cap') (k + 1) ((xs ++ [x]).map fun (y : Nat) => Value.int .u64 (y : Int)) ∧ Ex (fun j => base ≤ j) w w' := by
  obtain ⟨i, hi, hz, hs, hby⟩ := info_parts info_u64
  obtain ⟨v', w', hr, ho, hg, _⟩ := run_append_own (P := Tryd.prog) w base 30 30 25 i _ 1 8 Tryd.underlying30 hi hz hs hby rfl (by omega) _ k _ h ⟨gx, 0, none⟩ 1 1 [.int .u64 x] rfl
    (fun j u hj => by
      match j, hj with
      | 0, hj => simp at hj; subst hj; rw [add_plain]; exact hx) (fun u hu => by simp at hu; subst hu; rfl) (by unfold maxLen; omega) (by omega) hb
  have hv : ∃ A' cap', v' = .slice A' (k + 1) cap' := by
    rcases ho.2 with ⟨_, h0⟩ | ⟨g, cap, cur, rfl, _⟩
    · omega
    · exact ⟨_, _, rfl⟩
  obtain ⟨A', cap', rfl⟩ := hv
  refine ⟨A', cap', w', hr, by simpa using ho, hg.os, hg.tape, hg.output, hg.size, fun j hj hp => hg.block j hj fun e => ?_⟩
  rcases h.2 with ⟨h0, _⟩ | ⟨g, cap2, cur, h0, hg0, _⟩
  · rw [h0] at e; cases e
  · rw [h0] at e
    simp [Value.ownBlock] at e
    exact hp (by omega)

set_option maxHeartbeats 4000000 in
set_option maxRecDepth 100000 in
/-- impl.IiAll's closure. -/
theorem iiAll1_calls (base ob mb most x : Nat) (xs : List Nat) (w : World) (h : OutAt base ob w xs) (hm : w.heap[mb]? = some (.cells #[.int .i64 (most : Int)] 3 (0, 0))) (hob : ob < base) (hmb : mb < base) (hne : mb ≠ ob) (hbase : base ≤ w.heap.size) (hl : xs.length ≤ 1000) :
    Calls Tryd.prog 17 #[.int .u64 x, .pointer (some ⟨ob, 0, none⟩), .pointer (some ⟨mb, 0, none⟩)] w fun e w' => e = .returned (.bool (decide (xs.length + 1 < most))) ∧ OutAt base ob w' (xs ++ [x]) ∧ Ex (fun j => j = ob ∨ base ≤ j) w w' := by
  obtain ⟨A, cap, h1, h2⟩ := h
  obtain ⟨k, hk⟩ : ∃ k, k = xs.length := ⟨_, rfl⟩
  rw [← hk] at h1 h2 hl ⊢
  have hb1 := bel_alloc (Below.refl w.heap.size w) (.cells #[.int .u64 x] 25)
  obtain ⟨A', cap', w2, hap, ho, hex⟩ := append_num base k x A cap xs hk (w.alloc (.cells #[.int .u64 x] 25)) (ownsRow_below h2 hb1) (Nat.le_trans hbase hb1.size) hl w.heap.size (blk_cell (blk_new (w := w) (Below.refl _ _)) 0)
  have hex2 : Ex (fun j => base ≤ j) w w2 := (Ex.of_below hb1).trans hex
  have hob2 := hex2.keep h1 (by omega)
  have hmb2 := hex2.keep hm (by omega)
  have hmb3 := blk_far (p := ⟨ob, 0, none⟩) hmb2 hne (.slice A' (k + 1) cap')
  have hob3 := blk_set hob2 0 (.slice A' (k + 1) cap')
  have HE : Kp (OutAt base ob (w2.setCell ⟨ob, 0, none⟩ (.slice A' (k + 1) cap')) (xs ++ [x]) ∧ Ex (fun j => j = ob ∨ base ≤ j) w (w2.setCell ⟨ob, 0, none⟩ (.slice A' (k + 1) cap'))) := by
    have hle : (xs ++ [x]).length = k + 1 := by simp [hk]
    refine ⟨⟨A', cap', ?_, ?_⟩, Ex.setCell (p := ⟨ob, 0, none⟩) (hex2.mono fun j hj => .inr hj) (.inl rfl) _⟩
    · rw [hle]; exact hob3
    · rw [hle]
      exact ownsRow_ex ho (P := (· = ob)) (Ex.setCell (P := (· = ob)) (p := ⟨ob, 0, none⟩) (Ex.refl _ _) rfl _) (fun j hj e => by omega)
  have c1 := blk_cell h1 0
  have c1' := fun o => blk_cell (blk_keep h1 (bel_alloc (Below.refl _ _) o)) 0
  have c2 := blk_cell hob2 0
  have f2 := blk_frozen hob2 0
  have c3 := blk_cell hob3 0
  have c4 := blk_cell hmb3 0
  clear h1 h2 hm hb1 ho hex hex2 hob2 hmb2 hmb3 hob3 hk
  go_enter Tryd.func17, Tryd.ntmps17
  go_wp2_with (at_builtin; refine Lib.wpList_append_run _ rfl _ _ _ _ rfl _ _ rfl rfl _ _ hap ?_)
  go_ret
  have hd : decide ((k : Int) + 1 < (most : Int)) = decide (k + 1 < most) := decide_eq_decide.2 (by omega)
  exact ⟨by rw [← hd]; rfl, HE.out⟩

end Go.Proofs.YtgjocdnpephcgaaDoor
namespace Go.Proofs.YtgjocdnpephcgaaDoor
open Go.RowKit

theorem vis_split {p : Itm} : ∀ {L : List Itm}, Sorted L → vis p L = L.filter (fun y => decide (y.ds = p.ds)) ++ L.filter (fun y => dLt p.ds y.ds)
  | [], _ => rfl
  | y :: L, h => by
    obtain ⟨h1, h2⟩ := List.pairwise_cons.1 h
    have ih := vis_split (p := p) h2
    unfold vis at ih ⊢
    by_cases he : y.ds = p.ds
    · have a : dLt p.ds p.ds = false := dLe_refl _
      rw [List.filter_cons, List.filter_cons, List.filter_cons, ih]
      simp [a, he]
    · cases hl : dLt y.ds p.ds with
      | true =>
        have b : dLt p.ds y.ds = false := dLe_of_lt hl
        rw [List.filter_cons, List.filter_cons, List.filter_cons, ih]
        simp [hl, b, he]
      | false =>
        have hgt : dLt p.ds y.ds = true := by
          cases hq : dLt p.ds y.ds with
          | true => rfl
          | false => exact absurd (dLe_antisymm hq hl) he
        have hall : ∀ z ∈ L, dLt p.ds z.ds = true := fun z hz => by
          cases hq : dLt p.ds z.ds with
          | true => rfl
          | false =>
            have := dLe_trans (h1 z hz) hq
            unfold dLe at this
            rw [hgt] at this; cases this
        have e1 : L.filter (fun y => decide (y.ds = p.ds)) = [] := by
          rw [List.filter_eq_nil_iff]
          intro z hz
          have := hall z hz
          simp only [decide_eq_true_eq]
          intro e
          rw [e] at this
          have h0 : dLt p.ds p.ds = false := dLe_refl _
          rw [h0] at this; cases this
        have e2 : L.filter (fun y => dLt p.ds y.ds) = L := List.filter_eq_self.2 hall
        have e3 : L.filter (fun y => !dLt y.ds p.ds) = L := by
          refine List.filter_eq_self.2 fun z hz => ?_
          have : dLt z.ds p.ds = false := dLe_of_lt (hall z hz)
          simp [this]
        rw [List.filter_cons, List.filter_cons, List.filter_cons, e1, e2, e3]
        simp [hl, hgt, he]

/-- The entries of a digest. -/
def ofD (D : List UInt8) (L : List Itm) : List Itm := L.filter fun y => decide (y.ds = D)
theorem vis_at {p : Itm} {L : List Itm} (hs : Sorted L) (k : Nat) (hk : k < (vis p L).length) : if h : k < (ofD p.ds L).length then (vis p L)[k].ds = p.ds ∧ (vis p L)[k] = (ofD p.ds L)[k] else (vis p L)[k].ds ≠ p.ds := by
  have hv := vis_split (p := p) hs
  have hget : (vis p L)[k]? = (ofD p.ds L ++ L.filter (fun y => dLt p.ds y.ds))[k]? := by rw [hv]; rfl
  split
  · rename_i h
    rw [List.getElem?_append_left h, List.getElem?_eq_getElem hk, List.getElem?_eq_getElem h] at hget
    have e := Option.some.inj hget
    have hm := List.getElem_mem h
    simp only [ofD, List.mem_filter, decide_eq_true_eq] at hm
    refine ⟨?_, e⟩
    rw [e]
    exact hm.2
  · rename_i h
    rw [List.getElem?_append_right (by omega), List.getElem?_eq_getElem hk] at hget
    have hm := List.mem_of_getElem? hget.symm
    simp only [List.mem_filter] at hm
    intro e
    have h2 := hm.2
    rw [e] at h2
    have h0 : dLt p.ds p.ds = false := dLe_refl _
    rw [h0] at h2; cases h2

theorem RdB.exL {P : Nat → Prop} {w w1 : World} {A : Option Addr} {n c : Nat} {bs : List UInt8} (h : RdB w A n c bs) (hb : Ex P w w1) (hp : ∀ k, k < w.heap.size → P k → ∃ cs t, w.heap[k]? = some (.cells cs t (0, 0)) ∧ ∀ (i : Nat) (x : Int), cs[i]? ≠ some (Value.int .u8 x)) : RdB w1 A n c bs :=
  ⟨h.len, h.cap, h.most, fun h0 => by
    obtain ⟨g', o', e, hc⟩ := h.lies h0
    refine ⟨g', o', e, fun i hi => (World.cell?_of_block (a := ⟨g', o' + i, none⟩) (hb.block g' (World.block_lt_of_cell? w _ (hc i hi)) fun hP => ?_)).trans (hc i hi)⟩
    obtain ⟨cs, t, hblk, hno⟩ := hp g' (World.block_lt_of_cell? w _ (hc i hi)) hP
    have h1 := hc i hi
    rw [blk_cell hblk (o' + i)] at h1
    exact hno _ _ h1⟩

/-- What stands where the iteration begins. -/
structure GaW (B g eb ab fb ob mb most : Nat) (T : LT) (L : List Itm) (p : Itm) (W0 : World) : Prop where
  own : OwnT B W0 g T L
  pr : RdB W0 p.A p.ds.length p.c p.ds
  e : W0.heap[eb]? = some (.cells #[.slice p.A p.ds.length p.c, .string p.S, .int .u64 p.off] 72 (0, 0))
  f : W0.heap[fb]? = some (.cells #[.func (.func 17) #[] #[.pointer (some ⟨ob, 0, none⟩), .pointer (some ⟨mb, 0, none⟩)]] 50 (0, 0))
  m : W0.heap[mb]? = some (.cells #[.int .i64 (most : Int)] 3 (0, 0))
  a : W0.heap[ab]? = some (.cells #[.bool false] 4 (0, 0))
  o : OutAt W0.heap.size ob W0 []
/-- Behind k of them. -/
def GaS (ab ob : Nat) (W0 : World) (xs : List Nat) (k : Nat) (W : World) : Prop :=
  Ex (fun j => j = ob ∨ j = ab ∨ W0.heap.size ≤ j) W0 W ∧ W.heap[ab]? = some (.cells #[.bool (decide (0 < k))] 4 (0, 0)) ∧ OutAt W0.heap.size ob W (xs.take k)
theorem GaS.below {ab ob : Nat} {W0 : World} {xs : List Nat} {k : Nat} {W W' : World} (h : GaS ab ob W0 xs k W) (hb : Below W.heap.size W W') : GaS ab ob W0 xs k W' :=
  ⟨h.1.trans (Ex.of_below hb), blk_keep h.2.1 hb, h.2.2.below hb⟩
theorem GaW.keep {B g eb ab fb ob mb most : Nat} {T : LT} {L : List Itm} {p : Itm} {W0 W : World} (h : GaW B g eb ab fb ob mb most T L p W0) (hx : Ex (fun j => j = ob ∨ j = ab ∨ W0.heap.size ≤ j) W0 W) {k : Nat} {cs : Array Value} {t : TypeId} (hk : W0.heap[k]? = some (.cells cs t (0, 0))) (h1 : t ≠ 30) (h2 : t ≠ 4) : W.heap[k]? = some (.cells cs t (0, 0)) := by
  refine hx.keep hk ?_
  have hl := (Array.getElem?_eq_some_iff.1 hk).1
  rintro (rfl | rfl | hq)
  · obtain ⟨A, cap, ho, _⟩ := h.o
    rw [hk] at ho
    simp at ho
    exact h1 ho.2
  · have ha := h.a
    rw [hk] at ha
    simp at ha
    exact h2 ha.2
  · omega
theorem GaW.rd {B g eb ab fb ob mb most : Nat} {T : LT} {L : List Itm} {p : Itm} {W0 W : World} (h : GaW B g eb ab fb ob mb most T L p W0) (hx : Ex (fun j => j = ob ∨ j = ab ∨ W0.heap.size ≤ j) W0 W) {A : Option Addr} {n c : Nat} {bs : List UInt8} (hr : RdB W0 A n c bs) : RdB W A n c bs := by
  refine hr.exL hx fun k hk hP => ?_
  rcases hP with rfl | rfl | hq
  · obtain ⟨A, cap, ho, _⟩ := h.o
    exact ⟨_, _, ho, fun i x => by rcases i with _ | i <;> simp⟩
  · exact ⟨_, _, h.a, fun i x => by rcases i with _ | i <;> simp⟩
  · omega
theorem GaW.tree {B g eb ab fb ob mb most : Nat} {T : LT} {L : List Itm} {p : Itm} {W0 W : World} (h : GaW B g eb ab fb ob mb most T L p W0) (hx : Ex (fun j => j = ob ∨ j = ab ∨ W0.heap.size ≤ j) W0 W) : T.In W := by
  refine h.own.2.1.keep fun b hb => ?_
  obtain ⟨cs, hcs⟩ := h.own.2.1.node_of b hb
  rw [hcs]
  exact h.keep hx hcs (by decide) (by decide)

set_option maxHeartbeats 8000000 in
set_option maxRecDepth 100000 in
/-- GetAll's closure. -/
theorem getAll1_calls (B g eb ab fb ob mb most : Nat) (T : LT) (L : List Itm) (p : Itm) (W0 : World) (h : GaW B g eb ab fb ob mb most T L p W0) (hl : L.length ≤ 1000) (k : Nat) (hk : k < (vis p L).length) (W : World) (hS : GaS ab ob W0 ((ofD p.ds L).map (·.off)) k W) (hkm : k < most) (hkl : k ≤ (ofD p.ds L).length) :
    Calls Tryd.prog 35 #[(vis p L)[k].val, .pointer (some ⟨eb, 0, none⟩), .pointer (some ⟨ab, 0, none⟩), .pointer (some ⟨fb, 0, none⟩)] W fun e W' =>
      (e = .returned (.bool true) ∧ GaS ab ob W0 ((ofD p.ds L).map (·.off)) (k + 1) W' ∧ k + 1 < most ∧ k + 1 ≤ (ofD p.ds L).length) ∨ (e = .returned (.bool false) ∧ GaS ab ob W0 ((ofD p.ds L).map (·.off)) (min (ofD p.ds L).length most) W') := by
  have hat := vis_at h.own.2.2.2.2.1 (p := p) k hk
  have hmem : (vis p L)[k] ∈ L := (List.mem_filter.1 (List.getElem_mem hk)).1
  obtain ⟨y, hy⟩ : ∃ y, y = (vis p L)[k] := ⟨_, rfl⟩
  rw [← hy] at hat hmem ⊢
  have hyr : RdB W y.A y.ds.length y.c y.ds := h.rd hS.1 (h.own.2.2.2.2.2.1 y hmem)
  have hpr : RdB W p.A p.ds.length p.c p.ds := h.rd hS.1 h.pr
  have he := h.keep hS.1 h.e (by decide) (by decide)
  have hf := h.keep hS.1 h.f (by decide) (by decide)
  have hm := h.keep hS.1 h.m (by decide) (by decide)
  have hta : ∀ W, (Instr.typeAssert (.iface 72 (.agg #[.slice y.A y.ds.length y.c, .string y.S, .int .u64 y.off])) 67 72 false).run Tryd.prog W = .ok (.agg #[.slice y.A y.ds.length y.c, .string y.S, .int .u64 y.off]) W := fun _ => by kernel_rfl
  have HA : ∀ o, Below W.heap.size W (W.alloc o) := fun o => bel_alloc (Below.refl _ _) o
  have HQ := Kp.mk (fun o => Tryd.bytes_Equal_strs _ _ _ _ (W.alloc o) (rd_string (hyr.below (HA o)) 55 9 Tryd.underlying55 Tryd.underlying9) (rd_string (hpr.below (HA o)) 55 9 Tryd.underlying55 Tryd.underlying9))
  have c0 := fun o => blk_cell (blk_keep he (HA o)) 0
  have H := Kp.mk h
  have HS := Kp.mk hS
  have HM := Kp.mk hm
  have HFB := Kp.mk hf
  have HX := Kp.mk (And.intro hkm (And.intro hkl hl))
  have heq : ((strB y.ds).toList == (strB p.ds).toList) = decide (k < (ofD p.ds L).length) := by
    have e1 : ∀ a : List UInt8, (strB a).toList = a := fun a => by rw [ByteArray.toList_eq]; exact bl_strB a
    rw [e1, e1]
    split at hat
    · rename_i hlt
      rw [hat.1, decide_eq_true hlt]; simp
    · rename_i hlt
      rw [decide_eq_false hlt]; simpa using hat
  have HAT := Kp.mk hat
  rw [heq] at HQ
  clear heq hat hmem hyr hpr he hf hm HA h hS hkm hkl hl hy
  unfold Itm.val
  go_enter Tryd.func35, Tryd.ntmps35
  go_wp2_with fail
  refine (HQ.out _).mono ?_
  rintro e w1 ⟨rfl, hw⟩
  subst hw
  by_cases hlt : k < (ofD p.ds L).length
  · rw [decide_eq_true hlt]
    rw [dif_pos hlt] at HAT
    have hyx : ((ofD p.ds L).map (·.off))[k]? = some y.off := by
      rw [List.getElem?_map, List.getElem?_eq_getElem hlt, HAT.out.2]; rfl
    have htk : ((ofD p.ds L).map (·.off)).take k ++ [y.off] = ((ofD p.ds L).map (·.off)).take (k + 1) := by
      have hkl : k < ((ofD p.ds L).map (·.off)).length := by simpa using hlt
      rw [List.take_succ_eq_append_getElem hkl]
      rw [List.getElem?_eq_getElem hkl] at hyx
      rw [Option.some.inj hyx]
    have htl : (((ofD p.ds L).map (·.off)).take k).length = k := by rw [List.length_take, List.length_map]; omega
    obtain ⟨xs, hxs⟩ : ∃ xs, xs = ((ofD p.ds L).map (·.off)).take k := ⟨_, rfl⟩
    have ha := HS.out.2.1
    have hob0 := H.out.o
    obtain ⟨W1, hW1⟩ : ∃ V, V = W.alloc (.cells #[.slice y.A y.ds.length y.c, .string y.S, .int .u64 y.off] 72) := ⟨_, rfl⟩
    have hb1 : Below W.heap.size W W1 := by rw [hW1]; exact bel_alloc (Below.refl _ _) _
    have hn1 : W1.heap[W.heap.size]? = some (.cells #[.slice y.A y.ds.length y.c, .string y.S, .int .u64 y.off] 72 (0, 0)) := by rw [hW1]; exact blk_new (Below.refl _ _)
    have ha1 := blk_keep ha hb1
    have hal := (Array.getElem?_eq_some_iff.1 H.out.a).1
    have hol : ob < W0.heap.size := by obtain ⟨_, _, ho, _⟩ := H.out.o; exact (Array.getElem?_eq_some_iff.1 ho).1
    have hml := (Array.getElem?_eq_some_iff.1 H.out.m).1
    have hsz := HS.out.1.size
    have hao : ob ≠ ab := by
      rintro rfl
      obtain ⟨_, _, ho, _⟩ := H.out.o
      have h2 := H.out.a
      rw [ho] at h2
      simp at h2
    have hmo : mb ≠ ob := by
      rintro rfl
      obtain ⟨_, _, ho, _⟩ := H.out.o
      have h2 := H.out.m
      rw [ho] at h2
      simp at h2
    have hma : mb ≠ ab := by
      rintro rfl
      have h2 := H.out.m
      rw [H.out.a] at h2
      simp at h2
    obtain ⟨W2, hW2⟩ : ∃ V, V = W1.setCell ⟨ab, 0, none⟩ (.bool true) := ⟨_, rfl⟩
    have hx2 : Ex (fun j => j = ob ∨ j = ab ∨ W0.heap.size ≤ j) W0 W2 := by
      rw [hW2]
      exact Ex.setCell (p := ⟨ab, 0, none⟩) (HS.out.1.trans (Ex.of_below hb1)) (.inr (.inl rfl)) _
    have ha2 : W2.heap[ab]? = some (.cells #[.bool true] 4 (0, 0)) := by rw [hW2]; exact blk_set ha1 0 _
    have hO2 : OutAt W0.heap.size ob W2 xs := by
      rw [hW2, hxs]
      exact (HS.out.2.2.below hb1).ex (P := (· = ab)) (Ex.setCell (P := (· = ab)) (p := ⟨ab, 0, none⟩) (Ex.refl _ _) rfl _) hao (fun j hj e => by omega)
    have hm2 := H.out.keep hx2 H.out.m (by decide) (by decide)
    have hf2 := H.out.keep hx2 H.out.f (by decide) (by decide)
    have hn2 : W2.heap[W.heap.size]? = some (.cells #[.slice y.A y.ds.length y.c, .string y.S, .int .u64 y.off] 72 (0, 0)) := by
      rw [hW2]; exact blk_far (p := ⟨ab, 0, none⟩) hn1 (by show W.heap.size ≠ ab; omega) _
    have hc := iiAll1_calls W0.heap.size ob mb most y.off xs W2 hO2 hm2 hol hml hmo hx2.size (by rw [hxs, htl]; have := HX.out.2.1; have : (ofD p.ds L).length ≤ L.length := List.length_filter_le _ _; have := HX.out.2.2; omega)
    rw [hxs, htk, htl] at hc
    have HC := Kp.mk hc
    have HX2 := Kp.mk hx2
    have HA2 := Kp.mk ha2
    have d0 := blk_cell ha1 0
    have g0 := blk_frozen ha1 0
    have d1 := blk_cell hf2 0
    have d2 := blk_cell hn2 2
    have HLT := Kp.mk hlt
    have HAO := Kp.mk (And.intro hao hal)
    clear hyx htk htl hxs ha hob0 hb1 hn1 ha1 hal hol hml hsz hao hmo hma hx2 ha2 hO2 hm2 hf2 hn2 hc c0 HAT hlt
    subst hW2 hW1
    go_wp2_with fail
    refine HC.out.mono ?_
    rintro e w5 ⟨rfl, ho, hx⟩
    have HS5 : Kp (GaS ab ob W0 ((ofD p.ds L).map (·.off)) (k + 1) w5) := by
      refine ⟨HX2.out.trans (hx.mono fun j hj => hj.elim .inl fun h => .inr (.inr h)), ?_, ho⟩
      rw [decide_eq_true (Nat.succ_pos k)]
      exact hx.keep HA2.out fun h => h.elim (fun e => HAO.out.1 e.symm) (fun e => by have := HAO.out.2; omega)
    clear ho hx HC
    by_cases hm : k + 1 < most
    · rw [decide_eq_true hm]
      have HM1 := Kp.mk hm
      clear hm
      go_wp2_with fail
      go_ret
      exact .inl ⟨rfl, HS5.out, HM1.out, HLT.out⟩
    · rw [decide_eq_false hm]
      have hmin : min (ofD p.ds L).length most = k + 1 := by have := HX.out.1; have := HLT.out; omega
      have HM1 := Kp.mk hmin
      clear hm hmin
      go_wp2_with fail
      go_ret
      exact .inr ⟨rfl, by rw [HM1.out]; exact HS5.out⟩
  · rw [decide_eq_false hlt]
    have HL : Kp ((ofD p.ds L).length = k) := ⟨by have := HX.out.2.1; omega⟩
    clear hlt c0
    go_wp2_with fail
    go_ret
    refine .inr ⟨rfl, ?_⟩
    rw [HL.out, Nat.min_eq_left (Nat.le_of_lt HX.out.1)]
    exact HS.out.below (bel_alloc (Below.refl _ _) _)

end Go.Proofs.YtgjocdnpephcgaaDoor
namespace Go.Proofs.YtgjocdnpephcgaaDoor
open Go.RowKit

/-- The offsets of a digest's entries. -/
def offsK (D : List UInt8) (K : List (List UInt8 × ByteArray × Nat)) : List Nat := (K.filter fun y => decide (y.1 = D)).map (·.2.2)
theorem offsK_map (D : List UInt8) (L : List Itm) : (ofD D L).map (·.off) = offsK D (L.map Itm.key) := by
  induction L with
  | nil => rfl
  | cons y L ih =>
    unfold ofD offsK at *
    rw [List.map_cons, List.filter_cons, List.filter_cons]
    by_cases h : y.ds = D
    · simp only [h, decide_true, if_true, List.map_cons, ih, Itm.key]
    · simp only [h, decide_false, Bool.false_eq_true, if_false, ih, Itm.key]

/-- What the operations of GetAll's line leave. -/
def gaR (g : Nat) (p : Itm) (fv : Value) (j : Nat) (v : Value) (_ : World) : Prop :=
  match j with
  | 3 => v = .agg #[.slice p.A p.ds.length p.c, .string p.S, .int .u64 p.off]
  | 4 => v = p.val
  | 5 => v = fv
  | 0 => v = .pointer (some ⟨g, 0, none⟩)
  | 1 => v = .pointer (some ⟨g, 0, none⟩)
  | 2 => v = .pointer (some ⟨g, 0, none⟩)
  | _ => True

/-- What GetAll hands back. -/
def GaEnd (ve : Value) (xs : List Nat) (ob most : Nat) (w : World) (e : Ending) (w' : World) : Prop :=
  e = .returned (if xs = [] then ve else .nilIface) ∧ (∃ base, w.heap.size ≤ base ∧ OutAt base ob w' (xs.take most)) ∧ Ex (· = ob) w w'

set_option maxHeartbeats 8000000 in
set_option maxRecDepth 100000 in
/-- GetAll. -/
theorem getAll_calls (B g ob mb most v codec code : Nat) (s : ByteArray) (K : List (List UInt8 × ByteArray × Nat)) (ve : Value) (w : World) (hO : OwnK B w g K) (hl : K.length ≤ 1000) (h : Tidy v codec code s) (hs : s.size ≤ 1073741824) (he : MhErrs w) (hm1 : 1 ≤ most)
    (hob : w.heap[ob]? = some (.cells #[.slice none 0 0] 30 (0, 0))) (hmb : w.heap[mb]? = some (.cells #[.int .i64 (most : Int)] 3 (0, 0))) (hgo : 0 ≠ ob) (hnf : w.cell? ⟨0, 0, none⟩ = some ve) :
    Calls Tryd.prog 16 #[.pointer (some ⟨g, 0, none⟩), .agg #[.string (strB (cidB v codec code s))], .func (.func 17) #[] #[.pointer (some ⟨ob, 0, none⟩), .pointer (some ⟨mb, 0, none⟩)]] w fun e w' => GaEnd ve (offsK (bl s) K) ob most w e w' := by
  have hmf : ∀ (fn : Fn) (first cap : Array Value) (w : World), (Instr.makeFunc fn first cap).run Tryd.prog w = .ok (.func fn first cap) w := fun _ _ _ _ => rfl
  have HH := Kp.mk (fun w he => tHash_calls v codec code s w h hs he)
  have hlb := bl_length s
  have hmh : mhRead (mhBytes code (bl s)) = some (code, bl s, (mhBytes code (bl s)).length) := by
    have := mhRead_mhBytes (code := code) (d := bl s) [] (by rcases h with ⟨_, _, rfl, _⟩ | ⟨_, _, h⟩ <;> omega) (by omega)
    rwa [List.append_nil] at this
  have hmn : (mhBytes code (bl s)).length ≤ 2147483647 := by
    have a := Lib.uvarint_length64 (x := code) (by rcases h with ⟨_, _, rfl, _⟩ | ⟨_, _, h⟩ <;> omega)
    have b := Lib.uvarint_length64 (x := (bl s).length) (by omega)
    simp only [mhBytes, List.length_append]
    omega
  have HM := Kp.mk (And.intro hmh hmn)
  have HE := Kp.mk he
  have HO := Kp.mk hO
  have HX := Kp.mk (And.intro hl (And.intro hm1 (And.intro hob (And.intro hmb (And.intro hgo hnf)))))
  obtain ⟨D, hD⟩ : ∃ D, D = bl s := ⟨_, rfl⟩
  rw [← hD] at HM HH ⊢
  clear hmh hmn he h hO hl hm1 hob hmb hgo hnf hlb hs hD
  generalize strB (cidB v codec code s) = S at *
  go_enter Tryd.func16, Tryd.ntmps16
  go_wp2_with fail
  have HB0 := Kp.mk (fun o o2 => bel_alloc (bel_alloc (Below.refl w.heap.size w) o) o2)
  refine (HH.out _ (HE.out.below (HB0.out _ _))).mono ?_
  rintro e w1 ⟨⟨A, n, c, rfl, hr⟩, hb⟩
  have hn := hr.len
  have HB1 := Kp.mk (bel_then (HB0.out _ _) hb)
  have HF1 := Kp.mk (blk_new2 (w := w) hb)
  have HD := Kp.mk (decodeP_calls A n c _ w1 hr (HE.out.below HB1.out) (by have := HM.out.2; omega))
  have HA := Kp.mk hr
  clear hb hr HH HB0
  go_wp2_with fail
  refine HD.out.mono ?_
  rintro e w2 ⟨hu, hb⟩
  unfold DdEnd at hu
  rw [HM.out.1] at hu
  simp only [if_true] at hu
  obtain ⟨gd, A', c', rfl, hgd, hblk, hp⟩ := hu
  have HB2 := Kp.mk (bel_then HB1.out hb)
  have HF2 := Kp.mk (blk_keep HF1.out hb)
  have HG2 := Kp.mk hblk
  have HA2 := Kp.mk (hp w2 (HA.out.below hb))
  clear hb hblk hp HD HA HF1 HB1 hn hgd
  have c3 := fun o => blk_cell (blk_keep HG2.out (bel_alloc (Below.refl _ _) o)) 3
  have c3' := blk_cell HG2.out 3
  go_wp2_with fail
  clear c3 c3'
  obtain ⟨p, hp⟩ : ∃ p : Itm, p = ⟨A', c', D, ⟨#[]⟩, 0⟩ := ⟨_, rfl⟩
  have hk1 := blk_new (w := w2) (o := .cells #[.slice p.A p.ds.length p.c, .string p.S, .int .u64 p.off] 72) (bel_alloc (Below.refl _ _) (.cells #[.bool false] 4))
  have hk2 := blk_new2 (w := w2) (o := .cells #[.slice p.A p.ds.length p.c, .string p.S, .int .u64 p.off] 72) (o2 := .cells #[.bool false] 4) (Below.refl _ _)
  have hbA := bel_alloc (bel_alloc (Below.refl w2.heap.size w2) (.cells #[.slice p.A p.ds.length p.c, .string p.S, .int .u64 p.off] 72)) (.cells #[.bool false] 4)
  rw [show (.cells #[.slice A' D.length c', .string ⟨#[]⟩, .int .u64 0] 72 : Obj) = .cells #[.slice p.A p.ds.length p.c, .string p.S, .int .u64 p.off] 72 by rw [hp]; rfl]
  generalize (w2.alloc (.cells #[.slice p.A p.ds.length p.c, .string p.S, .int .u64 p.off] 72)).alloc (.cells #[.bool false] 4) = w3 at *
  have HK1 := Kp.mk hk1
  have HK2 := Kp.mk hk2
  have HBA := Kp.mk hbA
  have HP := Kp.mk hp
  clear hk1 hk2 hbA hp
  refine wp_region_growR (fun u u' => Below u.heap.size u u') (fun _ => Below.refl _ _) (fun _ _ _ h k => bel_then h k) (by kernel_rfl) 6 (by decide) (apart_of (by kernel_rfl)) (by kernel_rfl) (gaR g p (.func (.func 35) #[] #[.pointer (some ⟨w2.heap.size, 0, none⟩), .pointer (some ⟨w2.heap.size + 1, 0, none⟩), .pointer (some ⟨w.heap.size + 1, 0, none⟩)])) (fun _ _ _ _ => True) (fun _ _ _ _ h _ => by unfold gaR at *; exact h) ?_ ?_
  · intro j hj ob' ho vs w5 hb5 hpre
    have HK5 := Kp.mk (blk_keep HK1.out (bel_then (bel_drew (Below.refl _ _)) hb5))
    rcases j with _ | _ | _ | _ | _ | _ | j
    · obtain rfl := Option.some.inj ho
      simp only [canon, List.range, List.range.loop, List.foldl]
      go_simp
      exact ⟨rfl, Below.refl _ _⟩
    · have e0 : vs 0 = _ := hpre 0 (by decide) (by obtain rfl := Option.some.inj ho; rfl)
      obtain rfl := Option.some.inj ho
      simp only [canon, List.range, List.range.loop, List.foldl]
      go_simp
      exact ⟨rfl, Below.refl _ _⟩
    · have e1 : vs 1 = _ := hpre 1 (by decide) (by obtain rfl := Option.some.inj ho; rfl)
      obtain rfl := Option.some.inj ho
      simp only [canon, List.range, List.range.loop, List.foldl]
      go_simp
      exact ⟨rfl, Below.refl _ _⟩
    · have c0 := blk_cell HK5.out 0
      have c1 := blk_cell HK5.out 1
      have c2 := blk_cell HK5.out 2
      obtain rfl := Option.some.inj ho
      simp only [canon, List.range, List.range.loop, List.foldl]
      go_simp
      exact ⟨rfl, Below.refl _ _⟩
    · have e3 : vs 3 = _ := hpre 3 (by decide) (by obtain rfl := Option.some.inj ho; rfl)
      obtain rfl := Option.some.inj ho
      simp only [canon, List.range, List.range.loop, List.foldl]
      go_simp
      exact ⟨rfl, Below.refl _ _⟩
    · obtain rfl := Option.some.inj ho
      simp only [canon, List.range, List.range.loop, List.foldl]
      go_simp
      exact ⟨rfl, Below.refl _ _⟩
    · omega
  · intro vs w5 hb5 hr _
    have e2 : vs 2 = _ := hr 2 (by omega)
    have e4 : vs 4 = _ := hr 4 (by omega)
    have e5 : vs 5 = _ := hr 5 (by omega)
    have hb35 := bel_then (bel_drew (Below.refl w3.heap.size w3)) hb5
    have hb25 : Below w2.heap.size w2 w5 := bel_then HBA.out hb35
    have hb05 : Below w.heap.size w w5 := bel_then HB2.out hb25
    obtain ⟨L, ⟨T, hT⟩, hK⟩ := HO.out.below hb05
    have hGW : GaW B g w2.heap.size (w2.heap.size + 1) (w.heap.size + 1) ob mb most T L p w5 := ⟨hT, by rw [HP.out]; exact HA2.out.below hb25, blk_keep HK1.out hb35, blk_keep HF2.out hb25, blk_keep HX.out.2.2.2.1 hb05, blk_keep HK2.out hb35,
      ⟨none, 0, blk_keep HX.out.2.2.1 hb05, rfl, .inl ⟨rfl, rfl⟩⟩⟩
    have hll : L.length ≤ 1000 := by rw [← L.length_map (f := Itm.key), hK]; exact HX.out.1
    have hpd : p.ds = D := by rw [HP.out]
    have hI0 : GaS (w2.heap.size + 1) ob w5 ((ofD p.ds L).map (·.off)) 0 w5 ∧ 0 < most ∧ 0 ≤ (ofD p.ds L).length := ⟨⟨Ex.refl _ _, hGW.a, hGW.o⟩, HX.out.2.1, Nat.zero_le _⟩
    have hA := ascend3_calls g 35 (.pointer (some ⟨w2.heap.size, 0, none⟩)) (.pointer (some ⟨w2.heap.size + 1, 0, none⟩)) (.pointer (some ⟨w.heap.size + 1, 0, none⟩)) p (vis p L)
      (enters_of Tryd.func35 (by kernel_rfl) rfl)
      (fun k W => GaS (w2.heap.size + 1) ob w5 ((ofD p.ds L).map (·.off)) k W ∧ k < most ∧ k ≤ (ofD p.ds L).length) (fun W => GaS (w2.heap.size + 1) ob w5 ((ofD p.ds L).map (·.off)) (min (ofD p.ds L).length most) W)
      (fun k W W' h hb => ⟨h.1.below hb, h.2⟩)
      (fun k hk W h => getAll1_calls B g w2.heap.size (w2.heap.size + 1) (w.heap.size + 1) ob mb most T L p w5 hGW hll k hk W h.1 h.2.1 h.2.2)
      T (by rw [hT.2.2.2.1]; exact hT.2.2.2.2.1) (fun k W h => ⟨hGW.tree h.1.1, fun z hz => hGW.rd h.1.1 (hT.2.2.2.2.2.1 z (by rw [hT.2.2.2.1] at hz; exact hz)), hGW.rd h.1.1 hGW.pr⟩) (by rw [hT.2.2.2.1]) w5 hI0 _ hT.1
    have hfin : ∀ W, (GaS (w2.heap.size + 1) ob w5 ((ofD p.ds L).map (·.off)) (vis p L).length W ∧ (vis p L).length < most ∧ (vis p L).length ≤ (ofD p.ds L).length) ∨ GaS (w2.heap.size + 1) ob w5 ((ofD p.ds L).map (·.off)) (min (ofD p.ds L).length most) W →
        GaS (w2.heap.size + 1) ob w5 (offsK D K) (min (offsK D K).length most) W := by
      have hxs : (ofD p.ds L).map (·.off) = offsK D K := by rw [hpd, offsK_map, hK]
      have hxl : (ofD p.ds L).length = (offsK D K).length := by rw [← hxs, List.length_map]
      intro W h
      rw [hxs, hxl] at h
      rcases h with ⟨h1, h2, h3⟩ | h
      · have hv : (vis p L).length = (offsK D K).length := by
          have := vis_split (p := p) hT.2.2.2.2.1
          have h4 : (ofD p.ds L).length ≤ (vis p L).length := by rw [this, List.length_append]; exact Nat.le_add_right _ _
          omega
        rw [hv] at h1 h2
        rw [Nat.min_eq_left (by omega)]
        exact h1
      · exact h
    have HFIN := Kp.mk hfin
    have HAS := Kp.mk hA
    have HB5 := Kp.mk hb05
    have HSZ := Kp.mk hb25.size
    have HGW := Kp.mk hGW
    clear hb5 hr hb35 hb25 hb05 hT hK hGW hll hI0 hA hfin hpd
    simp only [canon, List.range, List.range.loop, List.foldl]
    refine wpAny_last 6 (by kernel_rfl) ?_
    refine wpOp_go rfl rfl ?_
    go_simp
    refine HAS.out.mono ?_
    rintro e w6 ⟨rfl, hf⟩
    have HS := Kp.mk (HFIN.out w6 hf)
    clear hf HAS HFIN
    obtain ⟨xs, hxs⟩ : ∃ xs, xs = offsK D K := ⟨_, rfl⟩
    rw [← hxs] at HS
    have HXS := Kp.mk hxs
    clear hxs
    have HW : Kp (Ex (· = ob) w w6) := ⟨Ex.new HB5.out HS.out.1 (fun k hk hq => hq.elim id (fun h => h.elim (fun e => by have := HB2.out.size; omega) (fun e => by have := HB5.out.size; omega)))⟩
    have HOUT : Kp (∃ base, w.heap.size ≤ base ∧ OutAt base ob w6 (xs.take most)) := ⟨w5.heap.size, HB5.out.size, by
      have := HS.out.2.2
      rw [show xs.take (min xs.length most) = xs.take most by rw [Nat.min_comm, ← List.take_eq_take_min]] at this
      exact this⟩
    have ha := blk_cell HS.out.2.1 0
    have hnf := HW.out.cell HX.out.2.2.2.2.2 (fun e => HX.out.2.2.2.2.1 e)
    simp only
    refine wpAny_none (by kernel_rfl) ?_ _
    by_cases hx0 : xs = []
    · have hz : decide (0 < min xs.length most) = false := by rw [hx0]; simp
      have HZ := Kp.mk hx0
      have hdz : (#[Value.bool (decide (0 < min xs.length most))] : Array Value)[0]? = some (.bool false) := by rw [hz]; rfl
      rw [hdz] at ha
      clear hx0 hz hdz
      go_wp2
      go_ret
      rw [← HXS.out]
      exact ⟨by rw [if_pos HZ.out]; rfl, HOUT.out, HW.out⟩
    · have hz : decide (0 < min xs.length most) = true := by
        have : 0 < xs.length := List.length_pos_iff.2 hx0
        have := HX.out.2.1
        exact decide_eq_true (by omega)
      have HZ := Kp.mk hx0
      have hdz : (#[Value.bool (decide (0 < min xs.length most))] : Array Value)[0]? = some (.bool true) := by rw [hz]; rfl
      rw [hdz] at ha
      clear hx0 hz hdz hnf
      go_wp2
      go_ret
      rw [← HXS.out]
      exact ⟨by rw [if_neg HZ.out]; rfl, HOUT.out, HW.out⟩

end Go.Proofs.YtgjocdnpephcgaaDoor
namespace Go.Proofs.YtgjocdnpephcgaaDoor
open Go.RowKit

def txNf : List UInt8 := [110, 111, 116, 32, 102, 111, 117, 110, 100]
/-- What the laws of insertion indexes need of the package-level variables. -/
structure IiErrs (w : World) : Prop where
  mh : MhErrs w
  nf : ∃ ve, w.cell? ⟨0, 0, none⟩ = some ve ∧ ErrV ve txNf w
theorem IiErrs.below {w w1 : World} (h : IiErrs w) (hb : Below w.heap.size w w1) : IiErrs w1 := by
  obtain ⟨h1, ve, h2, h3⟩ := h
  exact ⟨h1.below hb, ve, cell_bel hb h2, h3.below hb⟩

set_option maxHeartbeats 1000000 in
set_option maxRecDepth 100000 in
/-- impl.found. -/
theorem found_calls (ve v : Value) (k : Nat) (w : World) (hk : (v = .nilIface ∧ k = 0) ∨ (v = ve ∧ k = 1)) (hc : w.cell? ⟨0, 0, none⟩ = some ve) (hE : ErrV ve txNf w) :
    Calls Tryd.prog 18 #[v] w fun e w' => e = .returned (.int .u8 (k : Int)) ∧ w = w' := by
  rcases hk with ⟨rfl, rfl⟩ | ⟨rfl, rfl⟩
  · clear hc hE
    go_enter Tryd.func18, Tryd.ntmps18
    go_wp2
    go_ret
    exact ⟨rfl, rfl⟩
  · have hq := errV_same hE
    obtain ⟨T, u, rfl⟩ := hE.iface
    clear hE
    go_enter Tryd.func18, Tryd.ntmps18
    go_wp2
    go_ret
    exact ⟨rfl, rfl⟩

/-- What impl.IiAll hands back. -/
def IaEnd (xs : List Nat) (most : Nat) (w : World) (e : Ending) (w' : World) : Prop :=
  (∃ A cap base, e = .returned (.tuple #[.slice A (xs.take most).length cap, .int .u8 ((if xs = [] then 1 else 0 : Nat) : Int)]) ∧ w.heap.size ≤ base ∧ w'.ownsRow base 25 1 (.slice A (xs.take most).length cap) (xs.take most).length ((xs.take most).map fun (y : Nat) => Value.int .u64 (y : Int))) ∧ Below w.heap.size w w'
/-- What the operations of its last line leave. -/
def iaR (v ev : Value) (k : Nat) (j : Nat) (u : Value) (_ : World) : Prop :=
  match j with
  | 0 => u = v
  | 1 => u = ev
  | 2 => u = .int .u8 (k : Int)
  | 3 => u = v
  | 4 => u = .int .u8 (k : Int)
  | _ => True

set_option maxHeartbeats 8000000 in
set_option maxRecDepth 100000 in
/-- impl.IiAll. -/
theorem iiAll_calls (A : Option Addr) (n c : Nat) (es : List Ent) (v codec code most : Nat) (s : ByteArray) (w : World) (hr : RdE w A n c es) (hok : ∀ e ∈ es, e.ok) (hn : n ≤ 1000) (h : Tidy v codec code s) (hs : s.size ≤ 1073741824) (hm1 : 1 ≤ most) (he : IiErrs w) :
    Calls Tryd.prog 7 #[.slice A n c, .agg #[.int .u64 v, .int .u64 codec, .int .u64 code, .string s], .int .i64 most] w fun e w' => IaEnd (offsK (bl s) (keysOf es)) most w e w' := by
  have hmf : ∀ (fn : Fn) (first cap : Array Value) (w : World), (Instr.makeFunc fn first cap).run Tryd.prog w = .ok (.func fn first cap) w := fun _ _ _ _ => rfl
  obtain ⟨ve, hnf, hve⟩ := he.nf
  have hgl := World.block_lt_of_cell? w _ hnf
  have HB0 := Kp.mk (fun o o2 => bel_alloc (bel_alloc (Below.refl w.heap.size w) o) o2)
  have HI := Kp.mk (fun o o2 => insertion_calls A n c es ((w.alloc o).alloc o2) (hr.below (HB0.out o o2)) hok hn (he.mh.below (HB0.out o o2)))
  have hlen : (keysOf es).length ≤ 1000 := by rw [keysOf_length, hr.len]; exact hn
  have HC := Kp.mk (fun w he => cidIn_calls v codec code s w h hs he)
  have HG := Kp.mk (fun B g ob mb W hO he hob hmb hgo hnf => getAll_calls B g ob mb most v codec code s (keysOf es) ve W hO hlen h hs he hm1 hob hmb hgo hnf)
  have HE := Kp.mk (And.intro he (And.intro hnf (And.intro hve hgl)))
  clear hr hok hn h hs hm1 he hnf hve hlen hgl
  go_enter Tryd.func7, Tryd.ntmps7
  go_wp2_with fail
  refine (HI.out _ _).mono ?_
  rintro e w1 ⟨g, rfl, hO, hb⟩
  have HO := Kp.mk hO
  have HB1 := Kp.mk (bel_then (HB0.out _ _) hb)
  have hk1 := blk_keep (blk_new (w := w) (bel_alloc (Below.refl _ _) _)) hb
  have HM1 := Kp.mk (blk_new2 (w := w) hb)
  have c0 := blk_cell hk1 0
  have c1 := blk_cell hk1 1
  have c2 := blk_cell hk1 2
  have c3 := blk_cell hk1 3
  clear hO hb hk1 HI HB0
  go_wp2_with fail
  clear c0 c1 c2 c3
  refine (HC.out _ (HE.out.1.below HB1.out).mh).mono ?_
  rintro e w2 ⟨rfl, hb⟩
  obtain ⟨S, hS⟩ : ∃ S, S = strB (cidB v codec code s) := ⟨_, rfl⟩
  rw [← hS] at HG ⊢
  obtain ⟨w3, hw3⟩ : ∃ W, W = (w2.alloc (.cells #[.string S] 44)).alloc (.cells #[.slice none 0 0] 30) := ⟨_, rfl⟩
  have hb3 : Below w2.heap.size w2 w3 := by rw [hw3]; exact bel_alloc (bel_alloc (Below.refl _ _) _) _
  have hb13 := bel_then hb hb3
  have hob : w3.heap[w2.heap.size + 1]? = some (.cells #[.slice none 0 0] 30 (0, 0)) := by rw [hw3]; exact blk_new2 (Below.refl _ _)
  have hcs : w3.heap[w2.heap.size]? = some (.cells #[.string S] 44 (0, 0)) := by rw [hw3]; exact blk_new (bel_alloc (Below.refl _ _) _)
  have hb03 := bel_then HB1.out hb13
  have hGA := HG.out _ g (w2.heap.size + 1) (w.heap.size + 1) w3 (HO.out.below hb13) (HE.out.1.below hb03).mh hob (blk_keep HM1.out hb13) (by have h0 : 0 < w.heap.size := HE.out.2.2.2; have := HB1.out.size; have := hb.size; omega) (cell_bel hb03 HE.out.2.1)
  have d0 := blk_cell hcs 0
  have HGA := Kp.mk hGA
  have HB3 := Kp.mk hb03
  have hw3s : w3.heap.size = w2.heap.size + 1 + 1 := by rw [hw3]; simp [World.alloc, -World.alloc_eq]
  have HSZ : Kp (w.heap.size ≤ w2.heap.size) := ⟨Nat.le_trans HB1.out.size hb.size⟩
  rw [hw3] at HGA d0
  have HW3 := Kp.mk hw3
  clear hb hb3 hb13 hob hcs hb03 hGA HG HC HO HB1 HM1 hS hw3s hw3
  go_wp2_with fail
  clear d0
  refine HGA.out.mono ?_
  rintro e w4 hu
  rw [← HW3.out] at hu
  obtain ⟨rfl, ⟨base, hbase, A', cap', hot, hrow⟩, hx⟩ := hu
  have HBW : Kp (Below w.heap.size w w4) := ⟨HB3.out.trans (hx.toBelow (fun k hk e => by have := HSZ.out; omega) HB3.out.size)⟩
  have HT := Kp.mk hot
  have HRW := Kp.mk (And.intro (Nat.le_trans HB3.out.size hbase) hrow)
  clear hot hrow hx hbase HGA
  obtain ⟨xs, hxs⟩ : ∃ xs, xs = offsK (bl s) (keysOf es) := ⟨_, rfl⟩
  rw [← hxs] at HT HRW ⊢
  have HXS := Kp.mk hxs
  clear hxs
  obtain ⟨ev, hev⟩ : ∃ ev, ev = (if xs = [] then ve else Value.nilIface) := ⟨_, rfl⟩
  rw [← hev]
  have HK : Kp ((ev = .nilIface ∧ (if xs = [] then 1 else 0 : Nat) = 0) ∨ (ev = ve ∧ (if xs = [] then 1 else 0 : Nat) = 1)) := ⟨by
    rw [hev]
    by_cases h0 : xs = []
    · rw [if_pos h0, if_pos h0]; exact .inr ⟨rfl, rfl⟩
    · rw [if_neg h0, if_neg h0]; exact .inl ⟨rfl, rfl⟩⟩
  clear hev
  go_wp2_with fail
  refine wp_region_growR (fun u u' => Below u.heap.size u u') (fun _ => Below.refl _ _) (fun _ _ _ h k => bel_then h k) (by kernel_rfl) 5 (by decide) (apart_of (by kernel_rfl)) (by kernel_rfl) (iaR (.slice A' (xs.take most).length cap') ev (if xs = [] then 1 else 0)) (fun _ _ _ _ => True) (fun _ _ _ _ h _ => by unfold iaR at *; exact h) ?_ ?_
  · intro j hj ob' ho vs w5 hb5 hpre
    have hb45 := bel_then (bel_drew (Below.refl w4.heap.size w4)) hb5
    have HT5 := Kp.mk (blk_keep HT.out hb45)
    have HF5 := Kp.mk (found_calls ve ev _ w5 HK.out (cell_bel (bel_then HBW.out hb45) HE.out.2.1) (HE.out.2.2.1.below (bel_then HBW.out hb45)))
    clear hb45
    rcases j with _ | _ | _ | _ | _ | j
    · have c0 := blk_cell HT5.out 0
      obtain rfl := Option.some.inj ho
      simp only [canon, List.range, List.range.loop, List.foldl]
      go_simp
      exact ⟨rfl, Below.refl _ _⟩
    · obtain rfl := Option.some.inj ho
      simp only [canon, List.range, List.range.loop, List.foldl]
      go_simp
      exact ⟨rfl, Below.refl _ _⟩
    · have e1 : vs 1 = _ := hpre 1 (by decide) (by obtain rfl := Option.some.inj ho; rfl)
      obtain rfl := Option.some.inj ho
      simp only [canon, List.range, List.range.loop, List.foldl]
      go_simp
      refine HF5.out.mono ?_
      rintro e6 w6 ⟨rfl, hw⟩
      subst hw
      exact ⟨rfl, Below.refl _ _⟩
    · have e0 : vs 0 = _ := hpre 0 (by decide) (by obtain rfl := Option.some.inj ho; rfl)
      obtain rfl := Option.some.inj ho
      simp only [canon, List.range, List.range.loop, List.foldl]
      go_simp
      exact ⟨rfl, Below.refl _ _⟩
    · have e2 : vs 2 = _ := hpre 2 (by decide) (by obtain rfl := Option.some.inj ho; rfl)
      obtain rfl := Option.some.inj ho
      simp only [canon, List.range, List.range.loop, List.foldl]
      go_simp
      exact ⟨rfl, Below.refl _ _⟩
    · omega
  · intro vs w5 hb5 hr _
    have e3 : vs 3 = _ := hr 3 (by omega)
    have e4 : vs 4 = _ := hr 4 (by omega)
    have hb45 := bel_then (bel_drew (Below.refl w4.heap.size w4)) hb5
    have HB5 := Kp.mk (bel_then HBW.out hb45)
    have HR5 := Kp.mk (ownsRow_below HRW.out.2 hb45)
    clear hb5 hr hb45
    refine wpAny_none (by kernel_rfl) ?_ _
    generalize hA : canon _ _ vs 5 = F
    have h6 : F.tmps[6]? = some (vs 3) := by rw [← hA, canon_get (i := 3) rfl (Nat.le_of_ble_eq_true rfl) 5 (by omega) (apart_of (by kernel_rfl))]
    have h7 : F.tmps[7]? = some (vs 4) := by rw [← hA, canon_get (i := 4) rfl (Nat.le_of_ble_eq_true rfl) 5 (by omega) (apart_of (by kernel_rfl))]
    have hD : F.defers = [] := by rw [← hA, canon_defers]
    rw [e3] at h6
    rw [e4] at h7
    clear hA e3 e4
    go_wp2
    refine bodyPost_ret (results_tmp2 rfl _ _ _) hD ?_
    rw [← HXS.out, Array.getD_eq_getD_getElem?, Array.getD_eq_getD_getElem?, h6, h7]
    exact ⟨⟨A', cap', base, rfl, HRW.out.1, HR5.out⟩, HB5.out⟩

end Go.Proofs.YtgjocdnpephcgaaDoor
