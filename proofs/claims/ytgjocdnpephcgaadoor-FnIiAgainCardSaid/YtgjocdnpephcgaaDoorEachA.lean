/- Some texts in one: EntRow, Each1, Each2, Each, EachAll, IiAgain. -/
import Derived.Test.YtgjocdnpephcgaaDoorEntArg
import Derived.Test.YtgjocdnpephcgaaDoorGetA
import Derived.Test.YtgjocdnpephcgaaDoorIiA
import Derived.Test.YtgjocdnpephcgaaDoorCdA
import Derived.Test.YtgjocdnpephcgaaDoorHasA
namespace Go.Proofs.YtgjocdnpephcgaaDoor
open Go.RowKit

theorem flat_len (es : List Ent) : (es.flatMap entC).length = es.length * 5 := by
  induction es with
  | nil => rfl
  | cons e es ih => rw [List.flatMap_cons, List.length_append, ih, List.length_cons]; simp [entC]; omega
theorem flat_get : ∀ (es : List Ent) (i j : Nat) (hi : i < es.length), j < 5 → (es.flatMap entC)[i * 5 + j]? = some (es[i].cell j)
  | e :: es, 0, j, _, hj => by
    rw [List.flatMap_cons, Nat.zero_mul, Nat.zero_add, List.getElem?_append_left (by simpa [entC] using hj)]
    exact entC_get e j hj
  | e :: es, i + 1, j, hi, hj => by
    rw [List.flatMap_cons, List.getElem?_append_right (by simp [entC]; omega), show (i + 1) * 5 + j - (entC e).length = i * 5 + j by simp [entC]; omega]
    exact flat_get es i j (by simpa using hi) hj
theorem flat_one (es : List Ent) : ∀ u ∈ es.flatMap entC, u.oneCell' = true := by
  intro u hu
  obtain ⟨e, _, h⟩ := List.mem_flatMap.1 hu
  simp only [entC, List.mem_cons, List.not_mem_nil, or_false] at h
  rcases h with rfl | rfl | rfl | rfl | rfl <;> rfl
/-- A row of these entries, of the call's own. -/
def OwnE (base : Nat) (w : World) (A : Option Addr) (cap : Nat) (es : List Ent) : Prop := w.ownsRow base 29 5 (.slice A es.length cap) es.length (es.flatMap entC)
theorem OwnE.rd {base : Nat} {w : World} {A : Option Addr} {cap : Nat} {es : List Ent} (h : OwnE base w A cap es) : RdE w A es.length cap es := by
  rcases h.2 with ⟨h1, h0⟩ | ⟨g, cap', cur, he, _, hb, hle, hm, hs, ht⟩
  · simp only [Value.slice.injEq] at h1
    refine ⟨rfl, by omega, by omega, fun hp => by omega⟩
  · simp only [Value.slice.injEq] at he
    obtain ⟨rfl, _, rfl⟩ := he
    refine ⟨rfl, hle, hm, fun _ => ⟨g, 0, rfl, fun i hi j hj => ?_⟩⟩
    rw [blk_cell hb, Nat.zero_add]
    have h2 := flat_get es i j hi hj
    rw [← ht, List.getElem?_take, if_pos (by omega)] at h2
    simpa using h2
theorem OwnE.below {base : Nat} {w w1 : World} {A : Option Addr} {cap : Nat} {es : List Ent} (h : OwnE base w A cap es) (hb : Below w.heap.size w w1) : OwnE base w1 A cap es := by
  obtain ⟨h1, h2⟩ := h
  refine ⟨h1, h2.imp id ?_⟩
  rintro ⟨g, cap, cur, e, h3, h4, h5⟩
  exact ⟨g, cap, cur, e, h3, blk_keep h4 hb, h5⟩
theorem OwnE.ex {P : Nat → Prop} {base : Nat} {w w1 : World} {A : Option Addr} {cap : Nat} {es : List Ent} (h : OwnE base w A cap es) (hb : Ex P w w1) (hP : ∀ k, base ≤ k → ¬ P k) : OwnE base w1 A cap es := by
  obtain ⟨h1, h2⟩ := h
  refine ⟨h1, h2.imp id ?_⟩
  rintro ⟨g, cap, cur, e, h3, h4, h5⟩
  exact ⟨g, cap, cur, e, h3, hb.keep h4 (hP g h3), h5⟩
theorem info_ent : (Tryd.prog.info? 29).map (fun i => (i.zero, i.size, i.bytes)) = some (some (.agg #[.int .u64 0, .int .u64 0, .int .u64 0, .string ⟨#[]⟩, .int .u64 0]), 5, 48) := by kernel_rfl

/-- An append of entries. -/
theorem append_ents (base k m : Nat) (A : Option Addr) (cap : Nat) (xs es : List Ent) (hk : k = xs.length) (hm : m = es.length) (w : World) (h : OwnE base w A cap xs) (hb : base ≤ w.heap.size) (hl : k + m ≤ 1000) (h1 : 0 < m) (g o c : Nat) (hx : ∀ i (h : i < es.length) j, j < 5 → w.cell? ⟨g, o + i * 5 + j, none⟩ = some (es[i].cell j)) :
    ∃ A' cap' w', (Builtin.append_ #[22, 22] 22 #[.slice A k cap, .slice (some ⟨g, o, none⟩) m c]).run Tryd.prog w = .ok (.slice A' (k + m) cap') w'
      ∧ OwnE base w' A' cap' (xs ++ es) ∧ Ex (fun j => base ≤ j) w w' := by
  obtain ⟨i, hi, hz, hs, hby⟩ := info_parts info_ent
  have hown : w.ownsRow base 29 5 (.slice A k cap) k (xs.flatMap entC) := by rw [hk]; exact h
  obtain ⟨v', w', hr, ho, hg, _⟩ := run_append_own (P := Tryd.prog) w base 22 22 29 i _ 5 48 Tryd.underlying22 hi hz hs hby rfl (by omega) _ k _ hown ⟨g, o, none⟩ m c (es.flatMap entC) (by rw [flat_len, hm])
    (fun j u hj => by
      have hlt := (List.getElem?_eq_some_iff.1 hj).1
      rw [flat_len] at hlt
      have h2 := flat_get es (j / 5) (j % 5) (by omega) (Nat.mod_lt _ (by omega))
      have h3 := hx (j / 5) (by omega) (j % 5) (Nat.mod_lt _ (by omega))
      have hq : j / 5 * 5 + j % 5 = j := by omega
      rw [hq] at h2
      rw [add_plain]
      rw [show o + j / 5 * 5 + j % 5 = o + j by omega] at h3
      rw [h3, ← h2, hj]) (flat_one es) (by unfold maxLen; omega) (by omega) hb
  have hv : ∃ A' cap', v' = .slice A' (k + m) cap' := by
    rcases ho.2 with ⟨_, h0⟩ | ⟨g, cap, cur, rfl, _⟩
    · omega
    · exact ⟨_, _, rfl⟩
  obtain ⟨A', cap', rfl⟩ := hv
  refine ⟨A', cap', w', hr, by unfold OwnE; rw [List.length_append, ← hk, ← hm, List.flatMap_append]; exact ho, hg.os, hg.tape, hg.output, hg.size, fun j hj hp => hg.block j hj fun e => ?_⟩
  rcases h.2 with ⟨h0, _⟩ | ⟨g, cap2, cur, h0, hg0, _⟩
  · simp only [Value.slice.injEq] at h0
    rw [h0.1] at e; cases e
  · simp only [Value.slice.injEq] at h0
    rw [h0.1] at e
    simp [Value.ownBlock] at e
    exact hp (by omega)

end Go.Proofs.YtgjocdnpephcgaaDoor
namespace Go.Proofs.YtgjocdnpephcgaaDoor
open Go.RowKit

/-- Block ob holds a slice of these entries; its row lies at base or above. -/
def OutE (base ob : Nat) (w : World) (xs : List Ent) : Prop :=
  ∃ A cap, w.heap[ob]? = some (.cells #[.slice A xs.length cap] 22 (0, 0)) ∧ OwnE base w A cap xs
theorem OutE.below {base ob : Nat} {w w1 : World} {xs : List Ent} (h : OutE base ob w xs) (hb : Below w.heap.size w w1) : OutE base ob w1 xs := by
  obtain ⟨A, cap, h1, h2⟩ := h
  exact ⟨A, cap, blk_keep h1 hb, h2.below hb⟩

/-- What the operations of its line leave. -/
def ieR (k : Nat) (A : Option Addr) (cap : Nat) (S : ByteArray) (E : Ent) (j : Nat) (u : Value) (w : World) : Prop :=
  match j with
  | 0 => u = .slice A k cap
  | 1 => u = .agg #[.string S]
  | 2 => u = .agg #[.int .u64 E.v, .int .u64 E.codec, .int .u64 E.code, .string E.s]
  | 3 => u = .int .u64 E.off
  | 4 => u = .agg #[.int .u64 E.v, .int .u64 E.codec, .int .u64 E.code, .string E.s, .int .u64 E.off]
  | _ => ∃ g, u = .slice (some ⟨g, 0, none⟩) 1 1 ∧ w.heap[g]? = some (.cells #[.int .u64 E.v, .int .u64 E.codec, .int .u64 E.code, .string E.s, .int .u64 E.off] 29 (0, 0))

set_option maxHeartbeats 8000000 in
set_option maxRecDepth 100000 in
/-- impl.IiEach's closure. -/
theorem iiEach1_calls (base ob : Nat) (E : Ent) (xs : List Ent) (w : World) (h : OutE base ob w xs) (hob : ob < base) (hbase : base ≤ w.heap.size) (hl : xs.length < 1000) (ht : Tidy E.v E.codec E.code E.s) (hs : E.s.size ≤ 1073741824) (he : MhErrs w) :
    Calls Tryd.prog 13 #[.agg #[.string (strB (cidB E.v E.codec E.code E.s))], .int .u64 E.off, .pointer (some ⟨ob, 0, none⟩)] w fun e w' => e = .returned .nilIface ∧ OutE base ob w' (xs ++ [E]) ∧ Ex (fun j => j = ob ∨ base ≤ j) w w' := by
  have hlen := ht.len (by omega)
  have hrd := ht.read (by omega) []
  rw [List.append_nil] at hrd
  have hco := fun w he => cidOutRead_calls _ _ _ _ _ _ w hrd (by omega) he
  rw [List.take_length] at hco
  rw [show strB (bl E.s) = E.s from bl_ext (by rw [bl_strB])] at hco
  have HCO := Kp.mk hco
  clear hlen hrd hco ht hs
  obtain ⟨S, hS⟩ : ∃ S, S = strB (cidB E.v E.codec E.code E.s) := ⟨_, rfl⟩
  rw [← hS] at HCO ⊢
  clear hS
  obtain ⟨A, cap, h1, h2⟩ := h
  obtain ⟨k, hk⟩ : ∃ k, k = xs.length := ⟨_, rfl⟩
  rw [← hk] at h1 hl
  have HK := Kp.mk hk
  have HO := Kp.mk h1
  have HW := Kp.mk h2
  have HE := Kp.mk he
  have HB0 := Kp.mk (fun o => bel_alloc (Below.refl w.heap.size w) o)
  have HN0 := Kp.mk (fun o => blk_new (w := w) (o := o) (Below.refl _ _))
  clear h1 h2 he hk
  go_enter Tryd.func13, Tryd.ntmps13
  go_wp2_with fail
  have HB1 := Kp.mk (HB0.out (.cells #[.string S] 44))
  have HN1 := Kp.mk (HN0.out (.cells #[.string S] 44))
  clear HB0 HN0
  generalize w.alloc (.cells #[.string S] 44) = w1 at *
  refine wp_region_growR (fun u u' => Below u.heap.size u u') (fun _ => Below.refl _ _) (fun _ _ _ h k => bel_then h k) (by kernel_rfl) 6 (by decide) (apart_of (by kernel_rfl)) (by kernel_rfl) (ieR k A cap S E) (fun _ _ _ _ => True) ?_ ?_ ?_
  · intro i u a b h hb
    rcases i with _ | _ | _ | _ | _ | i
    · exact h
    · exact h
    · exact h
    · exact h
    · exact h
    · obtain ⟨g, e, hg⟩ := h
      exact ⟨g, e, blk_keep hg hb⟩
  · intro j hj ob' ho vs w5 hb5 hpre
    have hb05 := bel_then HB1.out (bel_then (bel_drew (Below.refl w1.heap.size w1)) hb5)
    have HN5 := Kp.mk (blk_keep HN1.out (bel_then (bel_drew (Below.refl w1.heap.size w1)) hb5))
    have HO5 := Kp.mk (blk_keep HO.out hb05)
    have HE5 := Kp.mk (HE.out.below hb05)
    have HB5 := Kp.mk (fun o => bel_alloc (Below.refl w5.heap.size w5) o)
    have HA5 := Kp.mk (fun o => blk_new (w := w5) (o := o) (Below.refl _ _))
    clear hb05 hb5
    rcases j with _ | _ | _ | _ | _ | _ | j
    · have c0 := blk_cell HO5.out 0
      obtain rfl := Option.some.inj ho
      simp only [canon, List.range, List.range.loop, List.foldl]
      go_simp
      exact ⟨rfl, Below.refl _ _⟩
    · have c0 := blk_cell HN5.out 0
      obtain rfl := Option.some.inj ho
      simp only [canon, List.range, List.range.loop, List.foldl]
      go_simp
      exact ⟨rfl, Below.refl _ _⟩
    · have e1 : vs 1 = _ := hpre 1 (by decide) (by obtain rfl := Option.some.inj ho; rfl)
      obtain rfl := Option.some.inj ho
      simp only [canon, List.range, List.range.loop, List.foldl]
      go_simp
      refine (HCO.out _ HE5.out).mono ?_
      rintro e6 w6 ⟨rfl, hb⟩
      exact ⟨rfl, hb⟩
    · obtain rfl := Option.some.inj ho
      simp only [canon, List.range, List.range.loop, List.foldl]
      go_simp
      exact ⟨rfl, Below.refl _ _⟩
    · have e2 : vs 2 = _ := hpre 2 (by decide) (by obtain rfl := Option.some.inj ho; rfl)
      have e3 : vs 3 = _ := hpre 3 (by decide) (by obtain rfl := Option.some.inj ho; rfl)
      obtain rfl := Option.some.inj ho
      simp only [canon, List.range, List.range.loop, List.foldl]
      go_simp
      exact ⟨rfl, Below.refl _ _⟩
    · have e4 : vs 4 = _ := hpre 4 (by decide) (by obtain rfl := Option.some.inj ho; rfl)
      obtain rfl := Option.some.inj ho
      simp only [canon, List.range, List.range.loop, List.foldl]
      go_simp
      exact ⟨⟨_, rfl, HA5.out _⟩, HB5.out _⟩
    · omega
  · intro vs w5 hb5 hr _
    have e0 : vs 0 = _ := hr 0 (by omega)
    obtain ⟨g, e5, hg⟩ : ∃ g, vs 5 = .slice (some ⟨g, 0, none⟩) 1 1 ∧ w5.heap[g]? = some (.cells #[.int .u64 E.v, .int .u64 E.codec, .int .u64 E.code, .string E.s, .int .u64 E.off] 29 (0, 0)) := hr 5 (by omega)
    have hb05 := bel_then HB1.out (bel_then (bel_drew (Below.refl w1.heap.size w1)) hb5)
    obtain ⟨A', cap', w6, hap, ho6, hx6⟩ := append_ents base k 1 A cap xs [E] HK.out rfl w5 (HW.out.below hb05) (Nat.le_trans hbase hb05.size) (by omega) (by omega) g 0 1 (fun i hi j hj => by
      have h0 : i = 0 := by simp at hi; exact hi
      subst h0
      rw [blk_cell hg]
      match j, hj with
      | 0, _ => rfl
      | 1, _ => rfl
      | 2, _ => rfl
      | 3, _ => rfl
      | 4, _ => rfl)
    have hob6 := hx6.keep (blk_keep HO.out hb05) (by omega)
    have HF : Kp (OutE base ob (w6.setCell ⟨ob, 0, none⟩ (.slice A' (k + 1) cap')) (xs ++ [E]) ∧ Ex (fun j => j = ob ∨ base ≤ j) w (w6.setCell ⟨ob, 0, none⟩ (.slice A' (k + 1) cap'))) := by
      have hle : (xs ++ [E]).length = k + 1 := by simp [HK.out]
      refine ⟨⟨A', cap', ?_, ?_⟩, Ex.setCell (p := ⟨ob, 0, none⟩) (((Ex.of_below hb05).trans hx6).mono fun j hj => .inr hj) (.inl rfl) _⟩
      · rw [hle]; exact blk_set hob6 0 _
      · exact ho6.ex (P := (· = ob)) (Ex.setCell (P := (· = ob)) (p := ⟨ob, 0, none⟩) (Ex.refl _ _) rfl _) (fun j hj e => by omega)
    have c0 := blk_cell hob6 0
    have f0 := blk_frozen hob6 0
    have HAP := Kp.mk hap
    clear hb5 hr hg hb05 hap ho6 hx6 hob6
    refine wpAny_last 6 (by kernel_rfl) ?_
    refine wpOp_go rfl rfl ?_
    refine Lib.wp_append_run _ _ _ _ _ rfl (.slice A k cap) (.slice (some ⟨g, 0, none⟩) 1 1) ?_ ?_ _ _ HAP.out ?_
    · simp only [canon, List.range, List.range.loop, List.foldl]
      go_simp
    · simp only [canon, List.range, List.range.loop, List.foldl]
      go_simp
    · clear HAP
      refine wpAny_last 7 (by kernel_rfl) ?_
      refine wpOp_go rfl rfl ?_
      simp only [canon, List.range, List.range.loop, List.foldl]
      go_simp
      refine wpAny_none (by kernel_rfl) ?_ _
      go_wp2
      go_ret
      exact ⟨rfl, HF.out⟩

end Go.Proofs.YtgjocdnpephcgaaDoor
namespace Go.Proofs.YtgjocdnpephcgaaDoor
open Go.RowKit

/-- What stands where the iteration begins. -/
structure FeW (B g fb eb ob : Nat) (T : LT) (L : List Itm) (W0 : World) : Prop where
  own : OwnT B W0 g T L
  f : W0.heap[fb]? = some (.cells #[.func (.func 13) #[] #[.pointer (some ⟨ob, 0, none⟩)]] 46 (0, 0))
  e : W0.heap[eb]? = some (.cells #[.nilIface] 41 (0, 0))
  o : W0.heap[ob]? = some (.cells #[.slice none 0 0] 22 (0, 0))
  mh : MhErrs W0
/-- The world behind these items. -/
def FeS (eb ob : Nat) (W0 : World) (xs : List Ent) (W : World) : Prop :=
  Ex (fun j => j = ob ∨ j = eb ∨ W0.heap.size ≤ j) W0 W ∧ W.heap[eb]? = some (.cells #[.nilIface] 41 (0, 0)) ∧ OutE W0.heap.size ob W xs
theorem FeS.below {eb ob : Nat} {W0 : World} {xs : List Ent} {W W' : World} (h : FeS eb ob W0 xs W) (hb : Below W.heap.size W W') : FeS eb ob W0 xs W' :=
  ⟨h.1.trans (Ex.of_below hb), blk_keep h.2.1 hb, h.2.2.below hb⟩
theorem FeW.keep {B g fb eb ob : Nat} {T : LT} {L : List Itm} {W0 W : World} (h : FeW B g fb eb ob T L W0) (hx : Ex (fun j => j = ob ∨ j = eb ∨ W0.heap.size ≤ j) W0 W) {k : Nat} {cs : Array Value} {t : TypeId} (hk : W0.heap[k]? = some (.cells cs t (0, 0))) (h1 : t ≠ 22) (h2 : t ≠ 41) : W.heap[k]? = some (.cells cs t (0, 0)) := by
  refine hx.keep hk ?_
  have hl := (Array.getElem?_eq_some_iff.1 hk).1
  rintro (rfl | rfl | hq)
  · have ha := h.o
    rw [hk] at ha
    simp at ha
    exact h1 ha.2
  · have ha := h.e
    rw [hk] at ha
    simp at ha
    exact h2 ha.2
  · omega
theorem FeW.rd {B g fb eb ob : Nat} {T : LT} {L : List Itm} {W0 W : World} (h : FeW B g fb eb ob T L W0) (hx : Ex (fun j => j = ob ∨ j = eb ∨ W0.heap.size ≤ j) W0 W) {A : Option Addr} {n c : Nat} {bs : List UInt8} (hr : RdB W0 A n c bs) : RdB W A n c bs := by
  refine hr.exL hx fun k hk hP => ?_
  rcases hP with rfl | rfl | hq
  · exact ⟨_, _, h.o, fun i x => by rcases i with _ | i <;> simp⟩
  · exact ⟨_, _, h.e, fun i x => by rcases i with _ | i <;> simp⟩
  · omega
theorem FeW.tree {B g fb eb ob : Nat} {T : LT} {L : List Itm} {W0 W : World} (h : FeW B g fb eb ob T L W0) (hx : Ex (fun j => j = ob ∨ j = eb ∨ W0.heap.size ≤ j) W0 W) : T.In W := by
  refine h.own.2.1.keep fun b hb => ?_
  obtain ⟨cs, hcs⟩ := h.own.2.1.node_of b hb
  rw [hcs]
  exact h.keep hx hcs (by decide) (by decide)

set_option maxHeartbeats 8000000 in
set_option maxRecDepth 100000 in
/-- ForEachCid's closure. -/
theorem forEach1_calls (B g fb eb ob : Nat) (T : LT) (L : List Itm) (W0 : World) (h : FeW B g fb eb ob T L W0) (y : Itm) (E : Ent) (hS : y.S = strB (cidB E.v E.codec E.code E.s)) (hoff : E.off = y.off) (hT : Tidy E.v E.codec E.code E.s) (hs : E.s.size ≤ 1073741824) (xs : List Ent) (hl : xs.length < 1000) (W : World) (hI : FeS eb ob W0 xs W) (hme : MhErrs W) :
    Calls Tryd.prog 28 #[y.val, .pointer (some ⟨fb, 0, none⟩), .pointer (some ⟨eb, 0, none⟩)] W fun e W' => e = .returned (.bool true) ∧ FeS eb ob W0 (xs ++ [E]) W' := by
  have hf := h.keep hI.1 h.f (by decide) (by decide)
  have hta : ∀ W, (Instr.typeAssert (.iface 72 (.agg #[.slice y.A y.ds.length y.c, .string y.S, .int .u64 y.off])) 67 72 false).run Tryd.prog W = .ok (.agg #[.slice y.A y.ds.length y.c, .string y.S, .int .u64 y.off]) W := fun _ => by kernel_rfl
  have hfd : ∀ W, (Instr.field 72 (.agg #[.slice y.A y.ds.length y.c, .string y.S, .int .u64 y.off]) 1).run Tryd.prog W = .ok (.agg #[.string y.S, .int .u64 y.off]) W := fun _ => by kernel_rfl
  have HA : ∀ o, Below W.heap.size W (W.alloc o) := fun o => bel_alloc (Below.refl _ _) o
  have hol := (Array.getElem?_eq_some_iff.1 h.o).1
  have hel := (Array.getElem?_eq_some_iff.1 h.e).1
  have hne : eb ≠ ob := by
    rintro rfl
    have h2 := h.o
    rw [h.e] at h2
    simp at h2
  have hsz := hI.1.size
  have c0 := fun o => blk_cell (blk_keep hf (HA o)) 0
  have HI := Kp.mk (fun o => hI.below (HA o))
  have HC := Kp.mk (fun o => iiEach1_calls W0.heap.size ob E xs (W.alloc o) (hI.2.2.below (HA o)) hol (Nat.le_trans hsz (HA o).size) hl hT hs (hme.below (HA o)))
  rw [← hS, hoff] at HC
  have HX := Kp.mk (And.intro hol (And.intro hel hne))
  clear hf HA hol hel hne hsz hI hme h hS hoff hT hs hl
  unfold Itm.val
  go_enter Tryd.func28, Tryd.ntmps28
  go_wp2_with fail
  refine (HC.out _).mono ?_
  rintro e w5 ⟨rfl, ho, hx⟩
  have HI5 := Kp.mk (HI.out (.cells #[.string y.S, .int .u64 y.off] 70))
  have he5 : w5.heap[eb]? = some (.cells #[.nilIface] 41 (0, 0)) := hx.keep HI5.out.2.1 (fun h => h.elim HX.out.2.2 (fun e => by have := HX.out.2.1; omega))
  have hFS : FeS eb ob W0 (xs ++ [E]) (w5.setCell ⟨eb, 0, none⟩ .nilIface) := by
    refine ⟨Ex.setCell (p := ⟨eb, 0, none⟩) (HI5.out.1.trans (hx.mono fun j hj => hj.elim .inl fun h => .inr (.inr h))) (.inr (.inl rfl)) _, blk_set he5 0 _, ?_⟩
    obtain ⟨A, cap, h1, h2⟩ := ho
    exact ⟨A, cap, blk_far (p := ⟨eb, 0, none⟩) h1 (fun e => HX.out.2.2 e.symm) _, h2.ex (P := (· = eb)) (Ex.setCell (P := (· = eb)) (p := ⟨eb, 0, none⟩) (Ex.refl _ _) rfl _) (fun j hj e => by have := HX.out.2.1; omega)⟩
  have HFS := Kp.mk hFS
  have d0 := blk_cell he5 0
  have f0 := blk_frozen he5 0
  have d1 := blk_cell (blk_set he5 0 .nilIface) 0
  clear ho hx he5 hFS c0 HI HC HI5 HX
  go_wp2_with fail
  go_ret
  exact ⟨rfl, HFS.out⟩

/-- The item that stands leftmost. -/
theorem min_in : ∀ (T : LT) (x : Itm) (L : List Itm), T.items = x :: L → ∃ b y k l r, T = .node b y k l r ∧ (l = .nil → y = x) ∧ (∀ b' y' k' l' r', l = .node b' y' k' l' r' → ∃ L', l.items = x :: L')
  | .nil, x, L, h => by simp [LT.items] at h
  | .node b y k l r, x, L, h => by
    refine ⟨b, y, k, l, r, rfl, fun e => ?_, fun b' y' k' l' r' e => ?_⟩
    · subst e
      simp [LT.items] at h
      exact h.1
    · have hne : l.items ≠ [] := by rw [e]; simp [LT.items]
      obtain ⟨z, M, hz⟩ := List.exists_cons_of_ne_nil hne
      simp only [LT.items, hz, List.cons_append, List.cons.injEq] at h
      exact ⟨M, by rw [hz, h.1]⟩

end Go.Proofs.YtgjocdnpephcgaaDoor
namespace Go.Proofs.YtgjocdnpephcgaaDoor
open Go.RowKit

theorem ptr_blks {w : World} : ∀ (T U : LT), T.In w → U.In w → T.ptr = U.ptr → T.blks = U.blks
  | .nil, .nil, _, _, _ => rfl
  | .nil, .node _ _ _ _ _, _, _, h => by simp [LT.ptr] at h
  | .node _ _ _ _ _, .nil, _, _, h => by simp [LT.ptr] at h
  | .node b x k l r, .node b' x' k' l' r', h1, h2, h => by
    simp only [LT.ptr, Value.pointer.injEq, Option.some.injEq, Addr.mk.injEq, and_true] at h
    subst h
    have h3 := h1.1
    rw [h2.1] at h3
    simp only [nodeCs, Option.some.injEq, Obj.cells.injEq, and_true] at h3
    have h4 := congrArg Array.toList h3
    simp only [List.cons.injEq, and_true] at h4
    obtain ⟨_, h5, h6, _⟩ := h4
    simp only [LT.blks]
    rw [ptr_blks l l' h1.2.1 h2.2.1 h5.symm, ptr_blks r r' h1.2.2 h2.2.2 h6.symm]
open Classical in
/-- How many nodes a tree has that lies there. -/
noncomputable def lsize (w : World) (v : Value) : Nat := if h : ∃ T : LT, T.In w ∧ T.ptr = v then h.choose.blks.length else 0
theorem lsize_eq {w : World} {T : LT} (h : T.In w) : lsize w T.ptr = T.blks.length := by
  unfold lsize
  have hex : ∃ U : LT, U.In w ∧ U.ptr = T.ptr := ⟨T, h, rfl⟩
  rw [dif_pos hex]
  rw [ptr_blks _ _ hex.choose_spec.1 h hex.choose_spec.2]

set_option maxHeartbeats 8000000 in
set_option maxRecDepth 100000 in
/-- Min. -/
theorem min_calls (g : Nat) (T : LT) (x : Itm) (L : List Itm) (z : Int) (w : World) (hT : T.In w) (hi : T.items = x :: L) (hg : w.heap[g]? = some (.cells #[.int .i64 z, T.ptr] 64 (0, 0))) :
    Calls Tryd.prog 27 #[.pointer (some ⟨g, 0, none⟩)] w fun e w' => e = .returned x.val ∧ w = w' := by
  obtain ⟨b, y, k, l, r, rfl, -, -⟩ := min_in T x L hi
  have c1 := blk_cell hg 1
  have HT := Kp.mk (And.intro hT hi)
  rw [show (LT.node b y k l r).ptr = .pointer (some ⟨b, 0, none⟩) from rfl] at c1
  clear hT hi hg
  go_enter Tryd.func27, Tryd.ntmps27
  go_wp2_with fail
  clear c1
  go_loopw [3] (fun v wr => ∃ (b : Nat) (y : Itm) (k : Bool) (l r : LT), v = .pointer (some ⟨b, 0, none⟩) ∧ Kp ((LT.node b y k l r).In w ∧ ∃ L', (LT.node b y k l r).items = x :: L') ∧ wr = w)
    (fun v _ => lsize w v)
  case atStart => exact ⟨b, y, k, l, r, rfl, ⟨HT.out.1, L, HT.out.2⟩, rfl⟩
  case round =>
    obtain ⟨b, y, k, l, r, rfl, H, rfl⟩ := hrel
    obtain ⟨hin, L', hL'⟩ := H.out
    obtain ⟨b2, y2, k2, l2, r2, he, hnil, hnode⟩ := min_in _ _ _ hL'
    simp only [LT.node.injEq] at he
    obtain ⟨rfl, rfl, rfl, rfl, rfl⟩ := he
    have c0 := blk_cell hin.1 0
    have c1 := blk_cell hin.1 1
    cases l with
    | nil =>
      simp only [nodeCs, LT.ptr] at c0 c1
      have HX := Kp.mk (hnil rfl)
      clear hin hL' hnil hnode HT
      go_wp2_with fail
      go_ret
      rw [← HX.out]
      exact ⟨rfl, rfl⟩
    | node b3 y3 k3 l3 r3 =>
      simp only [nodeCs, LT.ptr] at c0 c1
      have HX := Kp.mk (And.intro hin.2.1 (hnode b3 y3 k3 l3 r3 rfl))
      have HM : Kp (lsize wr (.pointer (some ⟨b3, 0, none⟩)) < lsize wr (.pointer (some ⟨b, 0, none⟩))) := ⟨by
        have h1 := lsize_eq hin
        have h2 := lsize_eq hin.2.1
        simp only [LT.ptr] at h1 h2
        rw [h1, h2]
        simp [LT.blks]
        omega⟩
      clear hin hL' hnil hnode HT c0
      go_wp2_with fail
      go_roundw
      case rel => exact ⟨b3, y3, k3, l3, r3, rfl, ⟨HX.out.1, HX.out.2⟩, trivial⟩
      case measure => exact HM.out

/-- What the operations of ForEachCid's line leave. -/
def feR (g : Nat) (p : Itm) (fv : Value) (j : Nat) (v : Value) (_ : World) : Prop :=
  match j with
  | 6 => v = p.val
  | 7 => v = fv
  | _ => v = .pointer (some ⟨g, 0, none⟩)

set_option maxHeartbeats 8000000 in
set_option maxRecDepth 100000 in
/-- ForEachCid over IiEach's closure. -/
theorem forEach_calls (B g ob : Nat) (es : List Ent) (w : World) (hO : OwnK B w g (keysOf es)) (hok : ∀ e ∈ es, e.ok) (hn : es.length ≤ 1000) (h0 : es ≠ []) (w0 : World) (he0 : MhErrs w0) (hb0 : Below w0.heap.size w0 w) (hob0 : w0.heap.size ≤ ob) (hob : w.heap[ob]? = some (.cells #[.slice none 0 0] 22 (0, 0))) :
    Calls Tryd.prog 12 #[.pointer (some ⟨g, 0, none⟩), .func (.func 13) #[] #[.pointer (some ⟨ob, 0, none⟩)]] w fun e w' => e = .returned .nilIface ∧ (∃ base xs, w.heap.size ≤ base ∧ xs.length = es.length ∧ OutE base ob w' xs) ∧ Ex (· = ob) w w' := by
  have hmf : ∀ (fn : Fn) (first cap : Array Value) (w : World), (Instr.makeFunc fn first cap).run Tryd.prog w = .ok (.func fn first cap) w := fun _ _ _ _ => rfl
  have he := he0.below hb0
  have HE := Kp.mk he
  have HE0 := Kp.mk (And.intro he0 (And.intro hb0 hob0))
  have HOB := Kp.mk hob
  obtain ⟨L, ⟨T, hT⟩, hK⟩ := hO
  have hLl : L.length = es.length := by rw [← L.length_map (f := Itm.key), hK, keysOf_length]
  obtain ⟨x, L', hL⟩ : ∃ x L', L = x :: L' := by
    cases L with
    | nil => simp at hLl; exact absurd (List.length_eq_zero_iff.1 hLl.symm) h0
    | cons x L' => exact ⟨x, L', rfl⟩
  have hent : ∀ y ∈ L, ∃ e : Ent, e ∈ es ∧ e.key = y.key := fun y hy => (keysOf_mem _ _).1 (by rw [← hK]; exact List.mem_map.2 ⟨y, hy, rfl⟩)
  have hvis : vis x L = L := by
    unfold vis
    rw [List.filter_eq_self]
    intro y hy
    have hxy : dLe x.ds y.ds := by
      rw [hL] at hy
      rcases List.mem_cons.1 hy with rfl | hy
      · exact dLe_refl _
      · have := hT.2.2.2.2.1
        rw [hL] at this
        exact (List.pairwise_cons.1 this).1 y hy
    have : dLt y.ds x.ds = false := hxy
    simp [this]
  have hx : T.items = x :: L' := by rw [hT.2.2.2.1, hL]
  have HMIN := Kp.mk (fun w1 hb => min_calls g T x L' _ w1 (hT.2.1.below hb) hx (blk_keep hT.1 hb))
  have HB0 := Kp.mk (fun o o2 => bel_alloc (bel_alloc (Below.refl w.heap.size w) o) o2)
  have HN0 := Kp.mk (fun o o2 => blk_new (w := w) (o := o) (bel_alloc (Below.refl _ _) o2))
  have HN1 := Kp.mk (fun o o2 => blk_new2 (w := w) (o := o) (o2 := o2) (Below.refl _ _))
  have HX0 := Kp.mk hx
  have HT := Kp.mk hT
  have HL := Kp.mk (And.intro hLl (And.intro hn (And.intro hvis hent)))
  have HOK := Kp.mk hok
  clear he he0 hb0 hob0 hob hT hK hLl hent hvis hx hn h0 hok hL
  go_enter Tryd.func12, Tryd.ntmps12
  go_wp2_with fail
  have HB1 := Kp.mk (HB0.out (.cells #[.func (.func 13) #[] #[.pointer (some ⟨ob, 0, none⟩)]] 46) (.cells #[.nilIface] 41))
  have HF1 := Kp.mk (HN0.out (.cells #[.func (.func 13) #[] #[.pointer (some ⟨ob, 0, none⟩)]] 46) (.cells #[.nilIface] 41))
  have HE1 := Kp.mk (HN1.out (.cells #[.func (.func 13) #[] #[.pointer (some ⟨ob, 0, none⟩)]] 46) (.cells #[.nilIface] 41))
  clear HB0 HN0 HN1
  generalize (w.alloc (.cells #[.func (.func 13) #[] #[.pointer (some ⟨ob, 0, none⟩)]] 46)).alloc (.cells #[.nilIface] 41) = w1 at *
  refine wp_region_growR (fun u u' => Below u.heap.size u u') (fun _ => Below.refl _ _) (fun _ _ _ h k => bel_then h k) (by kernel_rfl) 8 (by decide) (apart_of (by kernel_rfl)) (by kernel_rfl) (feR g x (.func (.func 28) #[] #[.pointer (some ⟨w.heap.size, 0, none⟩), .pointer (some ⟨w.heap.size + 1, 0, none⟩)])) (fun _ _ _ _ => True) (fun _ _ _ _ h _ => by unfold feR at *; exact h) ?_ ?_
  · intro j hj ob' ho vs w5 hb5 hpre
    have HM5 := Kp.mk (HMIN.out w5 (bel_then HB1.out (bel_then (bel_drew (Below.refl _ _)) hb5)))
    rcases j with _ | _ | _ | _ | _ | _ | _ | _ | j
    · obtain rfl := Option.some.inj ho
      simp only [canon, List.range, List.range.loop, List.foldl]
      go_simp
      exact ⟨rfl, Below.refl _ _⟩
    · have e0 : vs 0 = _ := hpre 0 (by decide) (by obtain rfl := Option.some.inj ho; rfl)
      obtain rfl := Option.some.inj ho
      simp only [canon, List.range, List.range.loop, List.foldl]
      go_simp
      exact ⟨rfl, Below.refl _ _⟩
    · have e1 : vs 1 = _ := hpre 1 (by decide) (by obtain rfl := Option.some.inj ho; rfl)
      obtain rfl := Option.some.inj ho
      simp only [canon, List.range, List.range.loop, List.foldl]
      go_simp
      exact ⟨rfl, Below.refl _ _⟩
    · obtain rfl := Option.some.inj ho
      simp only [canon, List.range, List.range.loop, List.foldl]
      go_simp
      exact ⟨rfl, Below.refl _ _⟩
    · have e3 : vs 3 = _ := hpre 3 (by decide) (by obtain rfl := Option.some.inj ho; rfl)
      obtain rfl := Option.some.inj ho
      simp only [canon, List.range, List.range.loop, List.foldl]
      go_simp
      exact ⟨rfl, Below.refl _ _⟩
    · have e4 : vs 4 = _ := hpre 4 (by decide) (by obtain rfl := Option.some.inj ho; rfl)
      obtain rfl := Option.some.inj ho
      simp only [canon, List.range, List.range.loop, List.foldl]
      go_simp
      exact ⟨rfl, Below.refl _ _⟩
    · have e5 : vs 5 = _ := hpre 5 (by decide) (by obtain rfl := Option.some.inj ho; rfl)
      obtain rfl := Option.some.inj ho
      simp only [canon, List.range, List.range.loop, List.foldl]
      go_simp
      refine HM5.out.mono ?_
      rintro e6 w6 ⟨rfl, hw⟩
      subst hw
      exact ⟨rfl, Below.refl _ _⟩
    · obtain rfl := Option.some.inj ho
      simp only [canon, List.range, List.range.loop, List.foldl]
      go_simp
      exact ⟨rfl, Below.refl _ _⟩
    · omega
  · intro vs w5 hb5 hr _
    have e2 : vs 2 = _ := hr 2 (by omega)
    have e6 : vs 6 = _ := hr 6 (by omega)
    have e7 : vs 7 = _ := hr 7 (by omega)
    have hb15 := bel_then (bel_drew (Below.refl w1.heap.size w1)) hb5
    have hb05 : Below w.heap.size w w5 := bel_then HB1.out hb15
    obtain ⟨hLl, hn, hvis, hent⟩ := HL.out
    obtain ⟨t1, t2, t3, t4, t5, t6, t7, t8, t9⟩ := HT.out
    have hT : OwnT B w5 g T L := ⟨blk_keep t1 hb05, t2.below hb05, t3, t4, t5, t6.below hb05, t7, t8, t9⟩
    have hFW : FeW B g w.heap.size (w.heap.size + 1) ob T L w5 := ⟨hT, blk_keep HF1.out hb15, blk_keep HE1.out hb15, blk_keep HOB.out hb05, HE.out.below hb05⟩
    have hol := (Array.getElem?_eq_some_iff.1 HOB.out).1
    have hI0 : ∃ xs : List Ent, xs.length = 0 ∧ FeS (w.heap.size + 1) ob w5 xs w5 := ⟨[], rfl, Ex.refl _ _, hFW.e, none, 0, hFW.o, rfl, .inl ⟨rfl, rfl⟩⟩
    have hme : ∀ W, Ex (fun j => j = ob ∨ j = w.heap.size + 1 ∨ w5.heap.size ≤ j) w5 W → MhErrs W := fun W hx => HE0.out.1.below ((HE0.out.2.1.trans (hb05.mono HE0.out.2.1.size)).trans (hx.toBelow (fun k hk hq => by have := HE0.out.2.2; have := HE0.out.2.1.size; have := hb05.size; omega) (by have := HE0.out.2.1.size; have := hb05.size; omega)))
    have hA := ascend2_calls g 28 (.pointer (some ⟨w.heap.size, 0, none⟩)) (.pointer (some ⟨w.heap.size + 1, 0, none⟩)) x L
      (enters_of Tryd.func28 (by kernel_rfl) rfl)
      (fun k W => ∃ xs : List Ent, xs.length = k ∧ FeS (w.heap.size + 1) ob w5 xs W) (fun _ => False)
      (fun k W W' ⟨xs, h1, h2⟩ hb => ⟨xs, h1, h2.below hb⟩)
      (fun k hk W ⟨xs, h1, h2⟩ => by
        obtain ⟨e, hem, hek⟩ := hent L[k] (List.getElem_mem hk)
        obtain ⟨k1, _, k2⟩ := HOK.out e hem
        have hS : L[k].S = strB (cidB e.v e.codec e.code e.s) := (congrArg (fun y => y.2.1) hek).symm
        have hof : e.off = L[k].off := congrArg (fun y => y.2.2) hek
        refine (forEach1_calls B g w.heap.size (w.heap.size + 1) ob T L w5 hFW L[k] e hS hof k1 (by omega) xs (by omega) W h2 (hme W h2.1)).mono ?_
        rintro e' W' ⟨rfl, hF⟩
        exact .inl ⟨rfl, xs ++ [e], by rw [List.length_append, h1]; rfl, hF⟩)
      T (by rw [t4]; exact t5) (fun k W ⟨xs, _, h⟩ => ⟨hFW.tree h.1, fun z hz => hFW.rd h.1 (hT.2.2.2.2.2.1 z (by rw [t4] at hz; exact hz)), hFW.rd h.1 (hT.2.2.2.2.2.1 x (by rw [← t4, HX0.out]; exact List.mem_cons_self))⟩) (by rw [t4, hvis]) w5 hI0 _ hT.1
    have HAS := Kp.mk hA
    have HB5 := Kp.mk hb05
    have HLN := Kp.mk hLl
    have HOL := Kp.mk hol
    clear hb5 hr hb15 hb05 hLl hn hvis hent t1 t2 t3 t4 t5 t6 t7 t8 t9 hT hFW hol hI0 hme hA
    simp only [canon, List.range, List.range.loop, List.foldl]
    refine wpAny_last 8 (by kernel_rfl) ?_
    refine wpOp_go rfl rfl ?_
    go_simp
    refine HAS.out.mono ?_
    rintro e w6 ⟨rfl, (⟨xs, hxl, hF⟩ | hF)⟩
    case inr => exact hF.elim
    have ha := blk_cell hF.2.1 0
    have HFF := Kp.mk (And.intro hxl hF)
    clear hxl hF HAS
    simp only
    refine wpAny_none (by kernel_rfl) ?_ _
    go_wp2
    go_ret
    refine ⟨rfl, ⟨w5.heap.size, xs, HB5.out.size, by rw [HFF.out.1, HLN.out], HFF.out.2.2.2⟩, Ex.new HB5.out HFF.out.2.1 (fun k hk hq => hq.elim id (fun h => h.elim (fun e => by omega) (fun e => by have := HB5.out.size; omega)))⟩

end Go.Proofs.YtgjocdnpephcgaaDoor
namespace Go.Proofs.YtgjocdnpephcgaaDoor
open Go.RowKit

set_option maxHeartbeats 4000000 in
set_option maxRecDepth 100000 in
/-- impl.IiEach. -/
theorem iiEach_calls (A : Option Addr) (n c : Nat) (es : List Ent) (w : World) (hr : RdE w A n c es) (hok : ∀ e ∈ es, e.ok) (hn : n ≤ 1000) (h0 : es ≠ []) (he : MhErrs w) :
    Calls Tryd.prog 6 #[.slice A n c] w fun e w' => (∃ A' cap, e = .returned (.slice A' n cap)) ∧ Below w.heap.size w w' := by
  have hmf : ∀ (fn : Fn) (first cap : Array Value) (w : World), (Instr.makeFunc fn first cap).run Tryd.prog w = .ok (.func fn first cap) w := fun _ _ _ _ => rfl
  have HI := Kp.mk (insertion_calls A n c es w hr hok hn he)
  have hlen := hr.len
  have HF := Kp.mk (fun B g ob w1 hO hb hob hg => forEach_calls B g ob es w1 hO hok (by omega) h0 w he hb hob hg)
  have HL := Kp.mk hlen
  clear hr hok hn h0 he hlen
  go_enter Tryd.func6, Tryd.ntmps6
  go_wp2_with fail
  refine HI.out.mono ?_
  rintro e w1 ⟨g, rfl, hO, hb⟩
  have hb1 := bel_alloc (Below.refl w1.heap.size w1) (.cells #[.slice none 0 0] 22)
  have HFF := Kp.mk (HF.out _ g w1.heap.size _ (hO.below hb1) (bel_then hb hb1) hb.size (blk_new (w := w1) (Below.refl _ _)))
  have HB := Kp.mk (bel_then hb hb1)
  have HS := Kp.mk hb.size
  clear hO hb hb1 HI HF
  go_wp2_with fail
  refine HFF.out.mono ?_
  rintro e w2 ⟨rfl, ⟨base, xs, hbase, hxl, A', cap, ho, _⟩, hx⟩
  have HBW : Kp (Below w.heap.size w w2) := ⟨HB.out.trans (hx.toBelow (fun k hk e => by have := HS.out; omega) HB.out.size)⟩
  rw [hxl, HL.out] at ho
  have c0 := blk_cell ho 0
  clear ho hx hxl hbase HFF HB
  go_wp2_with fail
  go_ret
  exact ⟨⟨A', cap, rfl⟩, HBW.out⟩

end Go.Proofs.YtgjocdnpephcgaaDoor
namespace Go.Proofs.YtgjocdnpephcgaaDoor
open Go.RowKit

set_option maxHeartbeats 8000000 in
set_option maxRecDepth 100000 in
theorem iiAgain_walk (A : Option Addr) (n c : Nat) (es : List Ent) (w : World) (hr : RdE w A n c es) (he : IiErrs w) :
    Calls Tryd.prog 3 #[.slice A n c] w fun e w' => e = .returned (.bool true) ∧ Below w.heap.size w w' := by
  have HF7 := Kp.mk (fun w hr => fits7_calls A n c es w hr)
  have HSE := Kp.mk (fun w hr => stEntries_calls A n c es w hr)
  have HR := Kp.mk hr
  have HX := Kp.mk he
  clear hr he
  go_enter Tryd.func3, Tryd.ntmps3
  go_wp2_with fail
  refine (HF7.out _ HR.out).mono ?_
  rintro e w1 ⟨rfl, hb⟩
  have HB1 := Kp.mk hb
  clear hb HF7
  by_cases h1 : n ≤ 2147483647 ∧ ∀ x ∈ es, x.s.size ≤ 2147483647
  case neg =>
    rw [decide_eq_false h1]
    clear h1
    go_wp2_with fail
    go_ret
    exact ⟨rfl, HB1.out⟩
  rw [decide_eq_true h1]
  clear h1
  go_wp2_with fail
  refine (HSE.out _ (HR.out.below HB1.out)).mono ?_
  rintro e w3 ⟨rfl, hb⟩
  have HB3 := Kp.mk (bel_then HB1.out hb)
  clear hb HSE HB1
  by_cases h3 : n ≤ 60 ∧ ∀ x ∈ es, x.ok
  case neg =>
    rw [decide_eq_false h3]
    clear h3
    go_wp2_with fail
    go_ret
    exact ⟨rfl, HB3.out⟩
  rw [decide_eq_true h3]
  have HN := Kp.mk h3
  clear h3
  by_cases h4 : n ≤ 30
  case neg =>
    have hd : decide ((n : Int) > 30) = true := decide_eq_true (by omega)
    have hd' : decide ((30 : Int) < n) = true := decide_eq_true (by omega)
    clear h4
    go_wp2_with fail
    go_ret
    exact ⟨rfl, HB3.out⟩
  by_cases h5 : n = 0
  · subst h5
    clear h4
    go_wp2_with fail
    go_ret
    exact ⟨rfl, HB3.out⟩
  have hd' : decide ((30 : Int) < n) = false := decide_eq_false (by omega)
  have h5' : (n : Int) ≠ 0 := by omega
  have HM := Kp.mk (And.intro h4 h5)
  obtain ⟨g0, o0, rfl, hc0⟩ := (HR.out.below HB3.out).lies (by omega)
  have hlen := HR.out.len
  have hg0 : g0 < w3.heap.size := World.block_lt_of_cell? w3 _ (hc0 0 (by omega) 0 (by omega))
  have hbE := bel_alloc (Below.refl w3.heap.size w3) (.cells #[] 29)
  have hown0 : OwnE w3.heap.size (w3.alloc (.cells #[] 29)) (some ⟨w3.heap.size, 0, none⟩) 0 [] := ⟨rfl, .inr ⟨w3.heap.size, 0, #[], rfl, Nat.le_refl _, blk_new (w := w3) (Below.refl _ _), Nat.le_refl _, Nat.zero_le _, rfl, rfl⟩⟩
  obtain ⟨A1, cap1, wa, hap1, ho1, hx1⟩ := append_ents w3.heap.size 0 n (some ⟨w3.heap.size, 0, none⟩) 0 [] es rfl hlen.symm _ hown0 hbE.size (by omega) (by omega) g0 o0 c (fun i hi j hj => cell_bel hbE (hc0 i hi j hj))
  rw [Nat.zero_add] at hap1
  rw [List.nil_append] at ho1
  obtain ⟨A2, cap2, wb, hap2, ho2, hx2⟩ := append_ents w3.heap.size n n A1 cap1 es es hlen.symm hlen.symm wa ho1 (Nat.le_trans hbE.size hx1.size) (by omega) (by omega) g0 o0 c (fun i hi j hj => hx1.cell (cell_bel hbE (hc0 i hi j hj)) (by show ¬ w3.heap.size ≤ g0; omega))
  obtain ⟨N, hN⟩ : ∃ N, N = n + n := ⟨_, rfl⟩
  rw [← hN] at hap2
  have hb3b : Below w3.heap.size w3 wb := hbE.trans (((hx1.trans hx2).toBelow (fun k hk e => by omega) hbE.size))
  have HBB := Kp.mk (bel_then HB3.out hb3b)
  have HRB := Kp.mk (And.intro (HR.out.below (bel_then HB3.out hb3b)) ho2.rd)
  have HNN := Kp.mk hN
  have HAP := Kp.mk (And.intro hap1 hap2)
  have HEL := Kp.mk (fun w hr he => iiEach_calls (some ⟨g0, o0, none⟩) n c es w hr HN.out.2 (by omega) (fun e => by rw [e] at hlen; simp at hlen; omega) he)
  have hok2 : ∀ e ∈ es ++ es, e.ok := fun e he => HN.out.2 e (by simpa using he)
  have hl2 : (es ++ es).length = N := by rw [List.length_append, hlen, hN]
  have HET := Kp.mk (fun w hr he => iiEach_calls A2 N cap2 (es ++ es) w hr hok2 (by omega) (fun e => by rw [e] at hl2; simp at hl2; omega) he)
  have HOK2 := Kp.mk (And.intro hok2 hl2)
  clear h4 h5 hc0 hlen hg0 hbE hown0 ho1 hx1 ho2 hx2 hN hb3b hok2 hl2 hap1 hap2
  have hap1 := HAP.out.1
  have hap2 := HAP.out.2
  go_wp2_with (first | (at_builtin; refine Lib.wpList_append_run _ rfl _ _ _ _ rfl _ _ rfl rfl _ _ hap1 ?_) | (at_builtin; refine Lib.wpList_append_run _ rfl _ _ _ _ rfl _ _ rfl rfl _ _ hap2 ?_))
  clear hap1 hap2 HAP
  rw [HOK2.out.2] at HRB
  refine (HEL.out _ HRB.out.1 (HX.out.mh.below HBB.out)).mono ?_
  rintro e w4 ⟨⟨A4, cap4, rfl⟩, hb⟩
  have HB4 := Kp.mk hb
  have hN2 : (N : Int) = 2 * (n : Int) := by have := HNN.out; omega
  have HNI := Kp.mk hN2
  clear hb HEL hN2
  go_wp2_with fail
  refine (HET.out _ (HRB.out.2.below HB4.out) (HX.out.mh.below (bel_then HBB.out HB4.out))).mono ?_
  rintro e w5 ⟨⟨A5, cap5, rfl⟩, hb⟩
  have HB5 := Kp.mk (bel_then HB4.out hb)
  clear hb HET HB4
  have hw : wrap64 (2 * (n : Int)) = (N : Int) := by have h1 := HNI.out; have h2 := HM.out.1; unfold wrap64; omega
  have hw' : ((N : Int) != wrap64 (2 * (n : Int))) = false := by rw [hw]; simp
  clear hw
  go_wp2_with fail
  go_loopw [50] (fun vi wr => ∃ i : Nat, vi = .int .i64 (i : Int) ∧ i ≤ n ∧ Kp (Below wb.heap.size wb wr))
    (fun vi _ => n - (match vi with | .int _ z => z.toNat | _ => 0))
  case atStart => exact ⟨0, rfl, Nat.zero_le _, ⟨HB5.out⟩⟩
  case round =>
    obtain ⟨i, rfl, hi, HI⟩ := hrel
    by_cases hin : i < n
    · have hil : i < es.length := by rw [HR.out.len]; exact hin
      obtain ⟨gE, o, hgo, hc⟩ := (HRB.out.1.below HI.out).lies (by omega)
      simp only [Option.some.injEq, Addr.mk.injEq, and_true] at hgo
      obtain ⟨rfl, rfl⟩ := hgo
      have c0 := hc i hil 0 (by omega)
      have c1 := hc i hil 1 (by omega)
      have c2 := hc i hil 2 (by omega)
      have c3 := hc i hil 3 (by omega)
      have c4 := hc i hil 4 (by omega)
      have HME := Kp.mk (List.getElem_mem hil)
      obtain ⟨E, hE⟩ : ∃ E, E = es[i] := ⟨_, rfl⟩
      rw [← hE] at c0 c1 c2 c3 c4 HME
      simp only [Ent.cell, Nat.add_zero] at c0 c1 c2 c3 c4
      clear hc hE
      obtain ⟨hT, hs0, hs⟩ := HN.out.2 E HME.out
      have HI1 := Kp.mk (fun w hr he => iiAll_calls (some ⟨g0, o0, none⟩) n c es E.v E.codec E.code N E.s w hr HN.out.2 (by have := HM.out.1; omega) hT (by omega) (by have := HNN.out; omega) he)
      have HI2 := Kp.mk (fun w hr he => iiAll_calls A2 N cap2 (es ++ es) E.v E.codec E.code N E.s w hr HOK2.out.1 (by have := HM.out.1; have := HNN.out; omega) hT (by omega) (by have := HNN.out; omega) he)
      have HIH := Kp.mk (fun w hr he => iiHas_calls A2 N cap2 (es ++ es) E.v E.codec E.code E.s w hr HOK2.out.1 (by have := HM.out.1; have := HNN.out; omega) hT (by omega) he ⟨E, List.mem_append_left _ HME.out, rfl, rfl, rfl, rfl⟩)
      rw [offs_keys] at HI1 HI2
      have hxs : offsE E.s es ≠ [] := fun h => by
        have : E.off ∈ offsE E.s es := List.mem_map.2 ⟨E, List.mem_filter.2 ⟨HME.out, by simp⟩, rfl⟩
        rw [h] at this; simp at this
      have h2x : offsE E.s (es ++ es) = offsE E.s es ++ offsE E.s es := by unfold offsE; rw [List.filter_append, List.map_append]
      have hxl := offsE_length E.s es
      rw [HR.out.len] at hxl
      have hk1 : ((offsE E.s es).take N).length = (offsE E.s es).length := by rw [List.length_take]; have := HNN.out; omega
      have hk2 : ((offsE E.s (es ++ es)).take N).length = 2 * (offsE E.s es).length := by rw [List.length_take, h2x, List.length_append]; have := HNN.out; omega
      have hys : offsE E.s (es ++ es) ≠ [] := by rw [h2x]; intro h; exact hxs (List.append_eq_nil_iff.1 h).1
      unfold IaEnd at HI1 HI2
      rw [hk1, if_neg hxs] at HI1
      rw [hk2, if_neg hys] at HI2
      obtain ⟨k, hk⟩ : ∃ k, k = (offsE E.s es).length := ⟨_, rfl⟩
      rw [← hk] at HI1 HI2 hxl
      obtain ⟨k2, hk2'⟩ : ∃ k2, k2 = 2 * k := ⟨_, rfl⟩
      rw [← hk2'] at HI2
      have HK := Kp.mk (And.intro hxl hk2')
      have HBO := Kp.mk (fun o => bel_then HI.out (bel_alloc (Below.refl wr.heap.size wr) o))
      have HNO := Kp.mk (fun o => blk_new (w := wr) (o := o) (Below.refl _ _))
      have hd0 := fun o => blk_cell (blk_new (w := wr) (o := .cells #[.int .u64 E.v, .int .u64 E.codec, .int .u64 E.code, .string E.s, .int .u64 E.off] 29) (bel_alloc (Below.refl _ _) o)) 0
      clear hT hs0 hs hxs h2x hk1 hk2 hys hk hk2' hxl hd0
      go_wp2_with fail
      clear c0 c1 c2 c3 c4
      refine (HI1.out _ (HRB.out.1.below (HBO.out _)) (HX.out.below (bel_then HBB.out (HBO.out _)))).mono ?_
      rintro e w6 ⟨⟨A6, cap6, base6, rfl, -, -⟩, hb⟩
      have HB6 := Kp.mk (bel_then (HBO.out _) hb)
      have HN6 := Kp.mk (blk_keep (HNO.out _) hb)
      have c0 := blk_cell HN6.out 0
      have c1 := blk_cell HN6.out 1
      have c2 := blk_cell HN6.out 2
      have c3 := blk_cell HN6.out 3
      clear hb HI1 HBO HNO
      go_wp2_with fail
      clear c0 c1 c2 c3
      refine (HI2.out _ (HRB.out.2.below HB6.out) (HX.out.below (bel_then HBB.out HB6.out))).mono ?_
      rintro e w7 ⟨⟨A7, cap7, base7, rfl, -, -⟩, hb⟩
      have HB7 := Kp.mk (bel_then HB6.out hb)
      have HN7 := Kp.mk (blk_keep HN6.out hb)
      have c0 := blk_cell HN7.out 0
      have c1 := blk_cell HN7.out 1
      have c2 := blk_cell HN7.out 2
      have c3 := blk_cell HN7.out 3
      clear hb HI2 HB6 HN6
      go_wp2_with fail
      clear c0 c1 c2 c3
      refine (HIH.out _ (HRB.out.2.below HB7.out) (HX.out.mh.below (bel_then HBB.out HB7.out))).mono ?_
      rintro e w8 ⟨rfl, hb⟩
      have HB8 := Kp.mk (bel_then HB7.out hb)
      clear hb HIH HB7 HN7
      have hwi : wrap64 ((i : Int) + 1) = (i : Int) + 1 := by have h3 := HM.out.1; unfold wrap64; omega
      have hw2 : ((k2 : Int) != wrap64 (2 * (k : Int))) = false := by
        have h1 := HK.out.1
        have h2 := HK.out.2
        have h3 := HM.out.1
        have : wrap64 (2 * (k : Int)) = (k2 : Int) := by unfold wrap64; omega
        rw [this]; simp
      go_wp2_with fail
      go_roundw
      case rel => exact ⟨i + 1, by first | (simp [hwi]; done) | (simp; done) | (rw [hwi]; rfl), by omega, HB8⟩
      case measure => simp; omega
    · have hin' : i = n := by omega
      subst hin'
      go_wp2_with fail
      go_ret
      exact ⟨rfl, bel_then HBB.out HI.out⟩

end Go.Proofs.YtgjocdnpephcgaaDoor
