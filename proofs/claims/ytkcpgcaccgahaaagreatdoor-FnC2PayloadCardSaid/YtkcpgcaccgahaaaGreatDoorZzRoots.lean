/- The walk of carv1.zzDecodeRoots of plain links. -/
import Derived.Test.YtkcpgcaccgahaaaGreatDoorDecB
import Derived.Test.YtkcpgcaccgahaaaGreatDoorCast
import Derived.Lib.AppendZerosOnto
import Derived.Deep.MidRow
namespace Go.Proofs.YtkcpgcaccgahaaaGreatDoor
open Go.RowKit

/-- A token of nothing. -/
def tok0 : List Value := [.int .u8 0, .int .i64 0, .string ⟨#[]⟩, .slice none 0 0, .bool false, .int .i64 0, .int .u64 0, .float .f64 0, .bool false, .int .i64 0]
theorem mk_cids (W : World) : (Instr.makeSlice 85 (.int .i64 0) (.int .i64 0)).run Tryz.prog W = .ok (.slice (some ⟨W.heap.size, 0, none⟩) 0 0) (W.alloc (.cells #[] 135)) := by kernel_rfl
theorem tok_there {w : World} {g : Nat} {tcs : Array Value} (h : w.heap[g]? = some (.cells tcs 192 (0, 0))) (hs : tcs.size = 10) : w.there g 0 10 := fun j hj => by
  rw [Nat.zero_add]
  exact ⟨by rw [blk_cell h j, Array.getElem?_eq_getElem (by omega)]; simp, blk_frozen h j⟩
theorem tok_put {w : World} {g : Nat} {tcs : Array Value} (h : w.heap[g]? = some (.cells tcs 192 (0, 0))) (hs : tcs.size = 10) : (w.setCells g 0 tok0).heap[g]? = some (.cells tok0.toArray 192 (0, 0)) := by
  have e : putLs tcs 0 tok0 = tok0.toArray := by
    apply Array.ext_getElem?
    intro i
    rw [putLs_get tok0 0 tcs i (by rw [hs]; exact Nat.le_refl 10), Nat.sub_zero, Nat.zero_add, show tok0.length = 10 from rfl]
    by_cases hi : i < 10
    · rw [if_pos ⟨Nat.zero_le _, hi⟩, List.getElem?_toArray]
    · have h1 : tcs[i]? = none := Array.getElem?_eq_none (by omega)
      have h2 : tok0.toArray[i]? = none := Array.getElem?_eq_none (by show 10 ≤ i; omega)
      rw [if_neg (by omega), h1, h2]
  rw [← e]
  exact blk_setCells tok0 0 tcs h
theorem DecS.lt {T : TypeId} {pv : Value} {fr : FuncId} {bs : List UInt8} {ve vu vo vn : Value} {O D : Nat → Prop} {S : Nat → World → Prop} (H : Src T pv fr bs ve vu vo vn O D S) {gz gs gd gk gl ph k : Nat} {stk lft : List Nat} {w : World} (h : DecS T pv S gz gs gd gk gl ph stk lft k w) : ∀ y, deD D gz gs gd gk gl y → y < w.heap.size := by
  obtain ⟨h1, h2, ⟨ck, h3, h4⟩, cl, h5, h6⟩ := h
  rintro y (hy | rfl | rfl | rfl)
  · exact h1.lt H y hy
  · exact (Array.getElem?_eq_some_iff.1 h2).1
  · exact (Array.getElem?_eq_some_iff.1 h3).1
  · exact (Array.getElem?_eq_some_iff.1 h5).1
theorem decLinks_succ {j : Nat} {r r2 : List UInt8} {lr : List (List UInt8)} (h : decLinks (j + 1) r = some (lr, r2)) : ∃ b r0 x b' r1 s r' l', r = b :: r0 ∧ (192 ≤ b.toNat ∧ b.toNat < 224) ∧ cbArg (b.toNat % 32) r0 = some (x, b' :: r1) ∧ cbByt b' r1 = some (.byt (0 :: s), r') ∧ isCid s ∧ lr = s :: l' ∧ decLinks j r' = some (l', r2) := by
  rw [decLinks] at h
  split at h
  · rename_i z s r' hit
    split at h
    · cases h
    · rename_i hz
      split at h
      · cases h
      · rename_i a b c d k hcd
        split at h
        · cases h
        · rename_i hk
          split at h
          · cases h
          · rename_i l' r3 hl
            simp only [Option.some.injEq, Prod.mk.injEq] at h
            obtain ⟨rfl, rfl⟩ := h
            obtain ⟨b0, r0, hr, hc⟩ := cbItem_cases hit
            rcases hc with ⟨s', x, b', r1, he, hb, ha, hby⟩ | ⟨hn, _⟩
            · have hz0 : z = 0 := by simpa using hz
              subst hz0
              exact ⟨b0, r0, x, b', r1, s, r', l', hr, hb, ha, hby, ⟨a, b, c, d, by rw [hcd]; simp at hk; rw [hk]⟩, rfl, hl⟩
            · exact absurd rfl (hn _)
  · cases h
theorem decLinks_len {j : Nat} : ∀ {r r2 : List UInt8} {lr : List (List UInt8)}, decLinks j r = some (lr, r2) → lr.length = j := by
  induction j with
  | zero => intro r r2 lr h; simp only [decLinks, Option.some.injEq, Prod.mk.injEq] at h; rw [← h.1]; rfl
  | succ j ih =>
    intro r r2 lr h
    obtain ⟨_, _, _, _, _, _, _, l3, _, _, _, _, _, rfl, hd⟩ := decLinks_succ h
    rw [List.length_cons, ih hd]
theorem cdRead_nil : cdRead [] = none := by decide
/-- The roots so far, in a row of their own. -/
def OwnR (base : Nat) (w : World) (A : Option Addr) (cap : Nat) (l : List (List UInt8)) : Prop := w.ownsRow base 135 1 (.slice A l.length cap) l.length (l.map fun c => Value.string (strB c))
theorem OwnR.mono {b b' : Nat} {w : World} {A : Option Addr} {cap : Nat} {l : List (List UInt8)} (h : OwnR b w A cap l) (hb : b' ≤ b) : OwnR b' w A cap l := by
  obtain ⟨h1, h2⟩ := h
  refine ⟨h1, h2.imp id ?_⟩
  rintro ⟨g, cp, cur, e, h3, h4⟩
  exact ⟨g, cp, cur, e, Nat.le_trans hb h3, h4⟩
theorem OwnR.keep {b : Nat} {P : Nat → Prop} {w w' : World} {A : Option Addr} {cap : Nat} {l : List (List UInt8)} (h : OwnR b w A cap l) (he : Ex P w w') (hp : ∀ x, P x → x < b) : OwnR b w' A cap l := by
  obtain ⟨h1, h2⟩ := h
  refine ⟨h1, h2.imp id ?_⟩
  rintro ⟨g, cp, cur, e, h3, h4, h5⟩
  exact ⟨g, cp, cur, e, h3, he.keep h4 (fun hx => by have := hp _ hx; omega), h5⟩
theorem DecS.left1 {T : TypeId} {pv : Value} {S : Nat → World → Prop} {gz gs gd gk gl ph k n j : Nat} {stk : List Nat} {w : World} (h : DecS T pv S gz gs gd gk gl ph stk [n, j] k w) : w.cell? ⟨gl, 1, none⟩ = some (.int .i64 (j : Int)) := by
  obtain ⟨cl, h5, _, h5v⟩ := h.lb
  exact (blk_cell h5 1).trans (h5v 1 j rfl)
/-- The block of a row. -/
def rowB (A : Option Addr) (x : Nat) : Prop := ∃ a, A = some a ∧ a.block = x
theorem Ex.of_grown {P : Nat → Prop} {w w' : World} {row : Option Nat} (h : w.grownBy w' row) (hp : ∀ g, row = some g → P g) : Ex P w w' := ⟨h.os, h.tape, h.output, h.size, fun k hk hn => h.block k hk (fun e => hn (hp k e.symm))⟩
theorem info_cidT : (Tryz.prog.info? 135).map (fun i => (i.zero, i.size, i.bytes)) = some (some (.agg #[.string ⟨#[]⟩]), 1, 16) := by kernel_rfl
theorem rt_app {base q cap : Nat} {A : Option Addr} {l : List (List UInt8)} {s : List UInt8} {W : World} (h : OwnR base W A cap l) (hq : W.cell? ⟨q, 0, none⟩ = some (.string (strB s))) (hl : l.length ≤ 1000) (hb : base ≤ W.heap.size) :
    ∃ A' cap' W', (Builtin.append_ #[85, 85] 85 #[.slice A l.length cap, .slice (some ⟨q, 0, none⟩) 1 1]).run Tryz.prog W = .ok (.slice A' (l.length + 1) cap') W' ∧ OwnR base W' A' cap' (l ++ [s]) ∧ Ex (rowB A) W W' := by
  obtain ⟨i, hi, hz, hs, hy⟩ := info_parts info_cidT
  obtain ⟨v', W', h1, h2, h3, _⟩ := run_append_own (P := Tryz.prog) W base 85 85 135 i _ 1 16 (by kernel_rfl) hi hz hs hy rfl (by decide) _ l.length _ h ⟨q, 0, none⟩ 1 1 [.string (strB s)] rfl
    (fun j u hj => by
      match j, hj with
      | 0, hj => simp at hj; subst hj; rw [add_plain]; exact hq)
    (fun u hu => by simp at hu; subst hu; rfl) (by simp only [maxLen]; omega) (by omega) hb
  have h4 := h2.2
  rcases h4 with ⟨_, h4⟩ | ⟨g, cp, cur, rfl, hg⟩
  · omega
  · refine ⟨some ⟨g, 0, none⟩, cp, W', h1, ?_, Ex.of_grown h3 ?_⟩
    · have e : (l ++ [s]).map (fun c => Value.string (strB c)) = l.map (fun c => Value.string (strB c)) ++ [.string (strB s)] := by simp
      unfold OwnR
      rw [e, List.length_append]
      exact h2
    · intro y hy
      rcases A with _ | a
      · cases hy
      · exact ⟨a, rfl, Option.some.inj hy⟩
/-- The blocks that the reading of the roots may change. -/
def rtO (O : Nat → Prop) (gz gs gd gk gl gt gh base x : Nat) : Prop := deO O gz gs gd gk gl gt x ∨ x = gh ∨ base ≤ x
theorem deO_D {T : TypeId} {pv : Value} {fr : FuncId} {bs : List UInt8} {ve vu vo vn : Value} {O D : Nat → Prop} {S : Nat → World → Prop} (H : Src T pv fr bs ve vu vo vn O D S) {gz gs gd gk gl gt x : Nat} (h : deO O gz gs gd gk gl gt x) : deD D gz gs gd gk gl x ∨ x = gt := by
  rcases h with h | h | h
  · exact .inl (.inl (slO_D H h))
  · exact .inr h
  · exact .inl (.inr h)
/-- What holds ahead of each round. -/
structure RtI (T : TypeId) (pv : Value) (bs : List UInt8) (O : Nat → Prop) (S : Nat → World → Prop) (gz gs gd gk gl gt gh base n v0 : Nat) (L : List (List UInt8)) (r2 : List UInt8) (w : World) (k j : Nat) (l lr : List (List UInt8)) (A : Option Addr) (cap : Nat) (wr : World) : Prop where
  dec : DecS T pv S gz gs gd gk gl 4 [0, 5] [n, j] k wr
  rest : decLinks j (bs.drop k) = some (lr, r2)
  all : L = l ++ lr
  own : OwnR base wr A cap l
  hdr : wr.heap[gh]? = some (.cells #[.slice A l.length cap, .int .u64 v0] 133 (0, 0))
  tok : ∃ tcs : Array Value, wr.heap[gt]? = some (.cells tcs 192 (0, 0)) ∧ tcs.size = 10
  ex : Ex (rtO O gz gs gd gk gl gt gh base) w wr
  bse : base ≤ wr.heap.size
/-- What the reading of the roots leaves, once there are no more. -/
theorem rt_end {T : TypeId} {pv : Value} {bs : List UInt8} {O : Nat → Prop} {S : Nat → World → Prop} {gz gs gd gk gl gt gh base n v0 k cap : Nat} {L l lr : List (List UInt8)} {r2 : List UInt8} {w wr W5 w4 : World} {A : Option Addr} (HJ : RtI T pv bs O S gz gs gd gk gl gt gh base n v0 L r2 w k 0 l lr A cap wr)
    (hxt : Ex (fun x => x = gt) wr W5) (hd4 : DecS T pv S gz gs gd gk gl 5 [0] [n] k w4) (hx4 : Ex (deO O gz gs gd gk gl gt) W5 w4) (hO : ∀ x, deO O gz gs gd gk gl gt x → x < base) (hnh : ¬ deO O gz gs gd gk gl gt gh) (hgt : gt = w.heap.size) (hgtb : gt < base) (hwb : w.heap.size ≤ base) :
    (∃ k', r2 = bs.drop k' ∧ DecS T pv S gz gs gd gk gl 5 [0] [n] k' w4) ∧ (∃ A cap, OwnR w.heap.size w4 A cap L ∧ w4.heap[gh]? = some (.cells #[.slice A L.length cap, .int .u64 v0] 133 (0, 0))) ∧ Ex (fun x => deO O gz gs gd gk gl gh x) w w4 := by
  obtain ⟨h1, h2, h3, h4, h5, h6, h7, _⟩ := HJ
  simp only [decLinks, Option.some.injEq, Prod.mk.injEq] at h2
  obtain ⟨rfl, rfl⟩ := h2
  rw [List.append_nil] at h3
  subst h3
  have hx : Ex (fun x => deO O gz gs gd gk gl gt x) wr w4 := (hxt.mono (fun x hx => .inr (.inl hx))).trans hx4
  refine ⟨⟨k, rfl, hd4⟩, ⟨A, cap, (h4.keep hx hO).mono hwb, hx.keep h5 hnh⟩, ?_⟩
  have hy := h7.trans (hx.mono (fun x hx => Or.inl hx))
  refine ⟨hy.os, hy.tape, hy.output, hy.size, fun j hj hn => hy.block j hj ?_⟩
  rintro ((h | h | h) | h | h)
  · exact hn (.inl h)
  · omega
  · exact hn (.inr (.inr h))
  · exact hn (.inr (.inl h))
  · omega
def zzV (gh q : Nat) (A : Option Addr) (l : List (List UInt8)) (cap : Nat) (st : Value) (A' : Option Addr) (cap' : Nat) (i : Nat) : Value :=
  match i with
  | 0 => .pointer (some ⟨gh, 0, none⟩)
  | 1 => .pointer (some ⟨gh, 0, none⟩)
  | 2 => .pointer (some ⟨gh, 0, none⟩)
  | 3 => .pointer (some ⟨gh, 0, none⟩)
  | 4 => .slice A l.length cap
  | 5 => .agg #[st]
  | 6 => .slice (some ⟨q, 0, none⟩) 1 1
  | 7 => .slice A' (l.length + 1) cap'
  | 8 => .pointer (some ⟨gh, 0, none⟩)
  | 9 => .pointer (some ⟨gh, 0, none⟩)
  | 10 => undef
  | _ => undef

set_option maxHeartbeats 8000000 in
set_option maxRecDepth 100000 in
/-- carv1.zzDecodeRoots. -/
theorem zzRoots_calls (T : TypeId) (pv : Value) (fr : FuncId) (bs : List UInt8) (ve vu vo vn : Value) (O D : Nat → Prop) (S : Nat → World → Prop) (H : Src T pv fr bs ve vu vo vn O D S) (gz gs : Nat) (hz : ¬ D gz) (hs : ¬ D gs) (hzs : gz ≠ gs) (hce : ∀ k w, S k w → CdErrs w) (gd gk gl gh n m k v0 : Nat) (A0 : Value) (w : World) (L : List (List UInt8)) (r r2 : List UInt8) (hd : ¬ slD D gz gs gd ∧ ¬ slD D gz gs gk ∧ ¬ slD D gz gs gl ∧ gd ≠ gk ∧ gd ≠ gl ∧ gk ≠ gl) (hgh : ¬ deD D gz gs gd gk gl gh)
    (hS : DecS T pv S gz gs gd gk gl 6 [0] [n] k w) (hh : w.heap[gh]? = some (.cells #[A0, .int .u64 v0] 133 (0, 0))) (hit : cbItem (bs.drop k) = some (.arr m, r)) (hdl : decLinks m r = some (L, r2)) (hL : L.length ≤ 255) :
    Calls Tryz.prog 103 #[.pointer (some ⟨gd, 0, none⟩), .pointer (some ⟨gh, 0, none⟩)] w fun e w' => e = .returned .nilIface ∧ (∃ k', r2 = bs.drop k' ∧ DecS T pv S gz gs gd gk gl 5 [0] [n] k' w') ∧ (∃ A cap, OwnR w.heap.size w' A cap L ∧ w'.heap[gh]? = some (.cells #[.slice A L.length cap, .int .u64 v0] 133 (0, 0))) ∧ Ex (fun x => deO O gz gs gd gk gl gh x) w w' := by
  obtain ⟨b, r0, hr0, hc⟩ := cbItem_cases hit
  obtain ⟨_, hv⟩ : (∀ s, Tk.arr m ≠ .byt s) ∧ cbVal b r0 = some (.arr m, r) := by
    rcases hc with ⟨s, _, _, _, h, _⟩ | h
    · cases h
    · exact h
  have hx : bs[k]? = some b := by have := congrArg (fun l => l[0]?) hr0; simpa [List.getElem?_drop] using this
  have hr1 : r0 = bs.drop (k + 1) := by have := congrArg (fun l => l.drop 1) hr0; simpa [List.drop_drop] using this.symm
  rw [hr1] at hv
  have hlt := hS.lt H
  have hgh1 : gh < w.heap.size := (Array.getElem?_eq_some_iff.1 hh).1
  obtain ⟨gt, hgt⟩ : ∃ gt, gt = w.heap.size := ⟨_, rfl⟩
  have hnD : ∀ y, deD D gz gs gd gk gl y → y ≠ gt := fun y hy e => by have := hlt y hy; omega
  have hN : DecN D gz gs gd gk gl gt := ⟨hd.1, hd.2.1, hd.2.2.1, fun h => hnD _ (.inl h) rfl, fun e => hnD _ (.inr (.inl rfl)) e.symm, fun e => hnD _ (.inr (.inr (.inl rfl))) e.symm, fun e => hnD _ (.inr (.inr (.inr rfl))) e.symm, hd.2.2.2.1, hd.2.2.2.2.1, hd.2.2.2.2.2⟩
  have hal := bel_alloc (Below.refl w.heap.size w) (.cells #[.int .u8 0, .int .i64 0, .string ⟨#[]⟩, .slice none 0 0, .bool false, .int .i64 0, .int .u64 0, .float .f64 0, .bool false, .int .i64 0] 192)
  have hS1 := hS.frame H (Ex.of_below hal)
  have ht1 := blk_new (w := w) (o := .cells #[.int .u8 0, .int .i64 0, .string ⟨#[]⟩, .slice none 0 0, .bool false, .int .i64 0, .int .u64 0, .float .f64 0, .bool false, .int .i64 0] 192) (Below.refl _ _)
  rw [← hgt] at ht1
  have HC1 := Kp.mk (step6_calls gd gs gt _ _ _ _ hS1.d (valInA_calls T pv fr bs ve vu vo vn O D S H gz gs hz hs hzs gd gk gl gt n k _ #[.int .u8 0, .int .i64 0, .string ⟨#[]⟩, .slice none 0 0, .bool false, .int .i64 0, .int .u64 0, .float .f64 0, .bool false, .int .i64 0] b m r hN hS1 ht1 rfl hx hv))
  have HH := Kp.mk H
  have HN := Kp.mk hN
  have HX := Kp.mk (And.intro hgh (And.intro hgh1 (And.intro hgt (And.intro hal hh))))
  have HP := Kp.mk (And.intro hz (And.intro hs hzs))
  have HL := Kp.mk (And.intro hdl (And.intro hL hce))
  clear hz hs hzs hd hS hit hdl hL hc hv hx hr1 hr0 hlt hgh1 hnD hN hal hS1 ht1 hgh hce hgt hh
  go_enter Tryz.func103, Tryz.ntmps103
  go_wp2_with fail
  rw [← HX.out.2.2.1]
  refine HC1.out.mono ?_
  rintro e w1 ⟨rfl, ⟨k1, hk1, hS1⟩, ⟨tcs, ht1, hts, ht0, _⟩, hx1⟩
  have c0 : w1.cell? ⟨gt, 0, none⟩ = some (.int .u8 91) := (blk_cell ht1 0).trans ht0
  have hmk := mk_cids
  have hh1 := hx1.keep (blk_keep HX.out.2.2.2.2 HX.out.2.2.2.1) (fun h => (deO_D H h).elim HX.out.1 (fun e => by have := HX.out.2.1; have := HX.out.2.2.1; omega))
  have hal := bel_alloc (Below.refl w1.heap.size w1) (.cells #[] 135)
  have hh2 := blk_keep hh1 hal
  have g0 := blk_cell hh2 0
  have k0 := blk_frozen hh2 0
  obtain ⟨base, hbase⟩ : ∃ base, base = w1.heap.size := ⟨_, rfl⟩
  have hset := blk_set hh2 0 (.slice (some ⟨base, 0, none⟩) 0 0)
  have hdl1 := HL.out.1
  rw [hk1] at hdl1
  have hgb : gh < base := by rw [hbase]; exact (Array.getElem?_eq_some_iff.1 hh1).1
  have hgtb : gt < base := by rw [hbase]; exact (Array.getElem?_eq_some_iff.1 ht1).1
  have hDb : ∀ y, deD D gz gs gd gk gl y → y < base := by rw [hbase]; exact hS1.lt H
  have hwb : w.heap.size ≤ base := by rw [hbase]; exact Nat.le_trans HX.out.2.2.2.1.size hx1.size
  have hxg : Ex (fun x => x = gh) w1 ((w1.alloc (.cells #[] 135)).setCell ⟨gh, 0, none⟩ (.slice (some ⟨base, 0, none⟩) 0 0)) := (Ex.of_below (P := fun x => x = gh) hal).setCell (p := ⟨gh, 0, none⟩) rfl _
  have HI : Kp (RtI T pv bs O S gz gs gd gk gl gt gh base n v0 L r2 w k1 m [] L (some ⟨base, 0, none⟩) 0 ((w1.alloc (.cells #[] 135)).setCell ⟨gh, 0, none⟩ (.slice (some ⟨base, 0, none⟩) 0 0))) := ⟨⟨hS1.frame H (hxg.mono (fun x hx hd => HX.out.1 (hx ▸ hd))), hdl1, rfl, ⟨rfl, .inr ⟨base, 0, #[], rfl, Nat.le_refl _, by rw [blk_far (p := ⟨gh, 0, none⟩) (blk_new (w := w1) (o := .cells #[] 135) (Below.refl _ _) |> fun h => (by rw [hbase]; exact h)) (by show base ≠ gh; omega) _], Nat.le_refl _, by decide, rfl, rfl⟩⟩, hset, ⟨tcs, hxg.keep ht1 (by show ¬ gt = gh; have h1 := HX.out.2.1; have h2 := HX.out.2.2.1; omega), hts⟩, ((Ex.of_below HX.out.2.2.2.1).trans (hx1.mono (fun x hx => .inl hx))).trans (hxg.mono (fun x hx => .inr (.inl hx))), Nat.le_trans (Nat.le_of_eq hbase) hxg.size⟩⟩
  have HB := Kp.mk (And.intro hgb (And.intro hgtb (And.intro hDb (And.intro hwb hbase))))
  clear hset hdl1 hgb hgtb hDb hwb hxg hbase hk1 hS1 ht1 hts ht0 hx1 hh1 hal hh2 HC1
  go_wp2_with fail
  rw [← HB.out.2.2.2.2]
  generalize ((w1.alloc (.cells #[] 135)).setCell ⟨gh, 0, none⟩ (.slice (some ⟨base, 0, none⟩) 0 0)) = W3 at *
  clear g0 k0 c0 hmk
  go_loopw [] (fun wr => ∃ (k j : Nat) (l lr : List (List UInt8)) (A : Option Addr) (cap : Nat), Kp (RtI T pv bs O S gz gs gd gk gl gt gh base n v0 L r2 w k j l lr A cap wr)) (fun wr => match wr.cell? ⟨gl, 1, none⟩ with | some (.int _ z) => z.toNat | _ => 0)
  case atStart => exact ⟨k1, m, [], L, _, 0, HI⟩
  case round =>
    obtain ⟨k2, j, l, lr, A, cap, HJ⟩ := hrel
    have HTH := HJ.out.tok
    obtain ⟨tcs, ht, hts⟩ := HTH
    have HTH := Kp.mk (tok_there ht hts)
    obtain ⟨W5, hW5⟩ : ∃ W5, W5 = wr.setCells gt 0 [.int .u8 0, .int .i64 0, .string ⟨#[]⟩, .slice none 0 0, .bool false, .int .i64 0, .int .u64 0, .float .f64 0, .bool false, .int .i64 0] := ⟨_, rfl⟩
    have hxt : Ex (fun x => x = gt) wr W5 := hW5 ▸ Ex.setCells (P := fun x => x = gt) rfl _ _ (Ex.refl _ _)
    have hdt : DecS T pv S gz gs gd gk gl 4 [0, 5] [n, j] k2 W5 := HJ.out.dec.frame H (hxt.mono (fun x hx hd => by subst hx; rcases hd with h | h | h | h; exact HN.out.nt h; exact HN.out.td h; exact HN.out.tk h; exact HN.out.tl h))
    have htt : W5.heap[gt]? = some (.cells #[.int .u8 0, .int .i64 0, .string ⟨#[]⟩, .slice none 0 0, .bool false, .int .i64 0, .int .u64 0, .float .f64 0, .bool false, .int .i64 0] 192 (0, 0)) := hW5 ▸ tok_put ht hts
    have hO : ∀ x, deO O gz gs gd gk gl gt x → x < base := fun x hx => (deO_D H hx).elim (HB.out.2.2.1 x) (fun e => e ▸ HB.out.2.1)
    have hnh : ¬ deO O gz gs gd gk gl gt gh := fun h => (deO_D H h).elim HX.out.1 (fun e => by have := HX.out.2.1; have := HX.out.2.2.1; omega)
    rcases j with _ | j
    · have HC := Kp.mk (stepArr_calls T pv fr bs ve vu vo vn O D S H gz gs gd gk gl gt n k2 _ #[.int .u8 0, .int .i64 0, .string ⟨#[]⟩, .slice none 0 0, .bool false, .int .i64 0, .int .u64 0, .float .f64 0, .bool false, .int .i64 0] HN.out hdt htt rfl)
      have HW5 := Kp.mk hW5
      have HHO := Kp.mk (And.intro hO (And.intro hnh hxt))
      clear hW5 ht hts hxt hdt htt hO hnh
      go_wp2_with (first | (refine wpList_store_mid rfl 192 _ _ rfl _ _ #[.int .u8 0, .int .i64 0, .string ⟨#[]⟩, .slice none 0 0, .bool false, .int .i64 0, .int .u64 0, .float .f64 0, .bool false, .int .i64 0] rfl rfl HTH.out (by kernel_rfl) (by simp [Value.oneCell']) ?_; rw [← (HW5.out : W5 = wr.setCells gt 0 (#[.int .u8 0, .int .i64 0, .string ⟨#[]⟩, .slice none 0 0, .bool false, .int .i64 0, .int .u64 0, .float .f64 0, .bool false, .int .i64 0] : Array Value).toList)]))
      refine HC.out.mono ?_
      rintro e w4 ⟨rfl, hd4, ⟨tcs4, ht4, _, ht40, _⟩, hx4⟩
      have c0 : w4.cell? ⟨gt, 0, none⟩ = some (.int .u8 93) := (blk_cell ht4 0).trans ht40
      have HE := Kp.mk (And.intro hd4 hx4)
      clear hd4 ht4 ht40 hx4 HC HTH
      go_wp2_with fail
      go_ret
      exact ⟨rfl, rt_end HJ.out HHO.out.2.2 HE.out.1 HE.out.2 HHO.out.1 HHO.out.2.1 HX.out.2.2.1 HB.out.2.1 HB.out.2.2.2.1⟩
    · obtain ⟨b1, r1, x1, b1', r1', s1, r3, l3, hr, hb1, ha, hby, hcid, rfl, hdl⟩ := decLinks_succ HJ.out.rest
      have hx1 : bs[k2]? = some b1 := by have := congrArg (fun l => l[0]?) hr; simpa [List.getElem?_drop] using this
      have hr1 : r1 = bs.drop (k2 + 1) := by have := congrArg (fun l => l.drop 1) hr; simpa [List.drop_drop] using this.symm
      rw [hr1] at ha
      have hl3 : j < 256 := by
        have h1 := HL.out.2.1
        have h2 := decLinks_len HJ.out.rest
        rw [HJ.out.all, List.length_append] at h1
        omega
      have HC := Kp.mk (step4_calls gd gs gt _ _ W5 _ hdt.d (elIn_calls T pv fr bs ve vu vo vn O D S H gz gs HP.out.1 HP.out.2.1 HP.out.2.2 gd gk gl gt n j k2 W5 _ b1 x1 b1' (0 :: s1) r1' r3 HN.out hdt htt rfl hx1 hb1 ha hby (by omega)))
      have HW5 := Kp.mk hW5
      have HHO := Kp.mk (And.intro hO (And.intro hnh hxt))
      have hs3 : (0 :: s1).length ≤ 256 := by
        obtain ⟨n2, r4, _, ha2, _, e2, _⟩ := cbByt_byt hby rfl
        have := (cbArg_lt ha2).1
        rw [e2, List.length_take]
        omega
      have HCD := Kp.mk (And.intro hcid (And.intro hdl (And.intro hl3 hs3)))
      clear hW5 ht hts hxt hdt htt hO hnh hr hb1 ha hby hcid hdl hx1 hr1 hl3 hs3
      go_wp2_with (first | (refine wpList_store_mid rfl 192 _ _ rfl _ _ #[.int .u8 0, .int .i64 0, .string ⟨#[]⟩, .slice none 0 0, .bool false, .int .i64 0, .int .u64 0, .float .f64 0, .bool false, .int .i64 0] rfl rfl HTH.out (by kernel_rfl) (by simp [Value.oneCell']) ?_; rw [← (HW5.out : W5 = wr.setCells gt 0 (#[.int .u8 0, .int .i64 0, .string ⟨#[]⟩, .slice none 0 0, .bool false, .int .i64 0, .int .u64 0, .float .f64 0, .bool false, .int .i64 0] : Array Value).toList)]))
      refine HC.out.mono ?_
      rintro e w4 ⟨rfl, ⟨k3, hk3, hd4⟩, ⟨gb, cp, hgb, hrb, tcs4, ht4, hts4, ht40, ht43⟩, hx4⟩
      have c0 : w4.cell? ⟨gt, 0, none⟩ = some (.int .u8 120) := (blk_cell ht4 0).trans ht40
      have c3 : w4.cell? ⟨gt, 3, none⟩ = some (.slice (some ⟨gb, 0, none⟩) (s1.length + 1) cp) := (blk_cell ht4 3).trans ht43
      have hs0 : 0 < s1.length := by
        rcases s1 with _ | ⟨a, s1⟩
        · obtain ⟨a, b, c, d, h⟩ := HCD.out.1
          exact absurd h (by simp [cdRead_nil])
        · exact Nat.succ_pos _
      obtain ⟨cq, rfl⟩ : ∃ c, cp = c + 2 := ⟨cp - 2, by have := hrb.cap; simp at this; omega⟩
      have cb0 : w4.cell? ⟨gb, 0, none⟩ = some (.int .u8 0) := by
        obtain ⟨g', o', e, hc⟩ := hrb.lies (Nat.succ_pos _)
        have e' := Option.some.inj e
        simp only [Addr.mk.injEq] at e'
        obtain ⟨rfl, rfl, _⟩ := e'
        have := hc 0 (by simp)
        rw [Nat.add_zero] at this
        exact this
      have q0 : (((s1.length + 1 : Nat) : Int) == 0) = false := beq_eq_false_iff_ne.2 (by omega)
      have hrb1 : RdB w4 (some ⟨gb, 0 + 1, none⟩) (s1.length + 1 - 1) (cq + 2 - 1) s1 := by
        have h := hrb.drop 1 (by simp)
        rw [if_neg (by have := hrb.cap; simp at this; omega)] at h
        exact h
      have hs2 : s1.length + 1 - 1 ≤ 2147483647 := by have := HCD.out.2.2.2; simp at this; omega
      have HCC := Kp.mk (cidCast_calls _ _ _ s1 w4 hrb1 (HL.out.2.2 _ _ hd4.sl.src) hs2 HCD.out.1)
      have HE := Kp.mk (And.intro hd4 (And.intro hk3 (And.intro hx4 (And.intro (show ∃ tcs : Array Value, w4.heap[gt]? = some (.cells tcs 192 (0, 0)) ∧ tcs.size = 10 from ⟨tcs4, ht4, hts4⟩) hgb))))
      clear hs0 hs2 hrb hrb1 hd4 hk3 hx4 ht4 hts4 ht40 ht43 hgb HC HTH
      go_wp2_with fail
      refine HCC.out.mono ?_
      rintro e w6 ⟨rfl, hb6⟩
      obtain ⟨U0, hU0⟩ : ∃ W, W = (w6.alloc (.cells #[.string (strB s1)] 135)).drew := ⟨_, rfl⟩
      obtain ⟨q, hq⟩ : ∃ q, q = U0.heap.size := ⟨_, rfl⟩
      obtain ⟨gc, hgc⟩ : ∃ gc, gc = w6.heap.size := ⟨_, rfl⟩
      obtain ⟨U1, hU1⟩ : ∃ W, W = U0.alloc (.cells #[.string (strB s1)] 135) := ⟨_, rfl⟩
      -- what stands at the cast's end
      have hx4 : Ex (fun x => deO O gz gs gd gk gl gt x) wr w4 := (HHO.out.2.2.mono (fun x hx => .inr (.inl hx))).trans HE.out.2.2.1
      have hx6 := hx4.trans (Ex.of_below hb6)
      have hal0 : Below w6.heap.size w6 U0 := by rw [hU0]; exact bel_drew (bel_alloc (Below.refl _ _) _)
      have hx0 := hx6.trans (Ex.of_below hal0)
      have hal1 : Below U0.heap.size U0 U1 := by rw [hU1]; exact bel_alloc (Below.refl _ _) _
      have hx1 := hx0.trans (Ex.of_below hal1)
      have hown1 := HJ.out.own.keep hx1 HHO.out.1
      have hh0 := hx0.keep HJ.out.hdr HHO.out.2.1
      have hh1 := hx1.keep HJ.out.hdr HHO.out.2.1
      have hbs := HJ.out.bse
      have hrow : ∀ x, rowB A x → base ≤ x ∧ x < wr.heap.size := by
        rintro x ⟨a, rfl, rfl⟩
        rcases HJ.out.own.2 with ⟨h2, _⟩ | ⟨g, _, _, h2, hg, hh, _⟩
        · cases h2
        · injection h2 with h2
          injection h2 with h2
          subst h2
          exact ⟨hg, (Array.getElem?_eq_some_iff.1 hh).1⟩
      have hcq : U1.cell? ⟨q, 0, none⟩ = some (.string (strB s1)) := by rw [hU1, hq]; exact blk_cell (blk_new (w := U0) (Below.refl _ _)) 0
      have hll : l.length ≤ 1000 := by have h1 := HL.out.2.1; have h2 := HJ.out.all; have h3 := congrArg List.length h2; simp at h3; omega
      obtain ⟨A', cap', U2, hap, hown2, hx2⟩ := rt_app hown1 hcq hll (Nat.le_trans hbs hx1.size)
      have hhb : ¬ rowB A gh := fun h => by have := (hrow _ h).1; have := HB.out.1; omega
      have hh2 := hx2.keep hh1 hhb
      obtain ⟨U3, hU3⟩ : ∃ W, W = U2.setCell ⟨gh, 0, none⟩ (.slice A' (l.length + 1) cap') := ⟨_, rfl⟩
      have hc6 : (w6.alloc (.cells #[.string (strB s1)] 135)).heap[gc]? = some (.cells #[.string (strB s1)] 135 (0, 0)) := by rw [hgc]; exact blk_new (w := w6) (Below.refl _ _)
      have hc0 : U0.heap[gc]? = some (.cells #[.string (strB s1)] 135 (0, 0)) := by rw [hU0]; exact hc6
      have hc1 := blk_keep hc0 hal1
      have hgcw : wr.heap.size ≤ gc := by rw [hgc]; exact hx6.size
      have hc2 := hx2.keep hc1 (fun h => by have := (hrow _ h).2; omega)
      have HC8 : Kp (U0.cell? ⟨gh, 0, none⟩ = some (.slice A l.length cap) ∧ U1.cell? ⟨gh, 0, none⟩ = some (.slice A l.length cap) ∧ U2.cell? ⟨gh, 0, none⟩ = some (.slice A l.length cap)) := ⟨blk_cell hh0 0, blk_cell hh1 0, blk_cell hh2 0⟩
      have HC9 : Kp (U0.cell? ⟨gc, 0, none⟩ = some (.string (strB s1)) ∧ U1.cell? ⟨gc, 0, none⟩ = some (.string (strB s1)) ∧ U2.cell? ⟨gc, 0, none⟩ = some (.string (strB s1))) := ⟨blk_cell hc0 0, blk_cell hc1 0, blk_cell hc2 0⟩
      have HF8 := Kp.mk (blk_frozen hh2 0)
      have HAP := Kp.mk hap
      have hx02 : Ex (fun x => base ≤ x) w4 U2 := ((Ex.of_below hb6).trans ((Ex.of_below hal0).trans (Ex.of_below hal1))).trans (hx2.mono (fun x hx => (hrow x hx).1))
      have hx13 : Ex (fun x => x = gh) U2 U3 := by rw [hU3]; exact (Ex.refl (fun x => x = gh) _).setCell (p := ⟨gh, 0, none⟩) rfl _
      have HI' : Kp (RtI T pv bs O S gz gs gd gk gl gt gh base n v0 L r2 w k3 j (l ++ [s1]) l3 A' cap' U3) := by
        obtain ⟨tc, htc, htcs⟩ := HE.out.2.2.2.1
        refine ⟨?_, ?_, ?_, hown2.keep hx13 (fun x hx => hx ▸ HB.out.1), ?_, ⟨tc, hx13.keep (hx02.keep htc (by have := HB.out.2.1; omega)) (by show ¬ gt = gh; have h1 := HX.out.2.1; have h2 := HX.out.2.2.1; omega), htcs⟩, ?_, Nat.le_trans hbs (Nat.le_trans hx1.size (Nat.le_trans hx2.size hx13.size))⟩
        · refine (HE.out.1.frame H (hx02.mono (fun x hx hd => ?_))).frame H (hx13.mono (fun x hx hd => HX.out.1 (hx ▸ hd)))
          have := HB.out.2.2.1 x hd; omega
        · rw [← HE.out.2.1]; exact HCD.out.2.1
        · rw [HJ.out.all]; simp
        · have h := blk_set hh2 0 (.slice A' (l.length + 1) cap')
          rw [hU3, show (l ++ [s1]).length = l.length + 1 by simp]
          exact h
        · exact ((HJ.out.ex.trans (hx4.mono (fun x hx => .inl hx))).trans (hx02.mono (fun x hx => .inr (.inr hx)))).trans (hx13.mono (fun x hx => .inr (.inl hx)))
      have HQ := Kp.mk hq
      have HU0 := Kp.mk hU0
      have HU1 := Kp.mk hU1
      have HU2 : Kp (U2 = U2) := Kp.mk rfl
      have HU3 := Kp.mk hU3
      have HGC := Kp.mk hgc
      have HMS : Kp ((match U3.cell? ⟨gl, 1, none⟩ with | some (.int _ z) => z.toNat | _ => 0) < (match wr.cell? ⟨gl, 1, none⟩ with | some (.int _ z) => z.toNat | _ => 0)) := by
        refine Kp.mk ?_
        rw [HI'.out.dec.left1, HJ.out.dec.left1]
        show ((j : Int)).toNat < (((j + 1 : Nat) : Int)).toNat
        omega
      clear c0 c3 cb0 q0 hb6 HCC hU0 hq hU1 hx4 hx6 hal0 hx0 hal1 hx1 hown1 hh0 hh1 hbs hcq hll hap hown2 hx2 hhb hh2 hU3 hc6 hc0 hc1 hgcw hc2 hx02 hx13 hrow hgc
      go_wp2_with fail
      rw [← HGC.out]
      clear HGC
      refine wp_region_growS (by kernel_rfl) 11 (by kernel_rfl) (zzV gh q A l cap (.string (strB s1)) A' cap') (stC U0 U1 U2 U3 6 7 10) HU0.out.symm (apart_of (by kernel_rfl)) (by kernel_rfl) ?_ ?_
      · intro i hi ob ho f vs hfi hn hpre hw
        rcases i with _ | _ | _ | _ | _ | _ | _ | _ | _ | _ | _ | i
        · clear hn hpre hw
          obtain rfl := Option.some.inj ho
          simp only [canon, List.range, List.range.loop, List.foldl]
          go_simp
          exact ⟨rfl, stC_upd (i := 0) (by decide)⟩
        · clear hn hpre hw
          obtain rfl := Option.some.inj ho
          simp only [canon, List.range, List.range.loop, List.foldl]
          go_simp
          exact ⟨rfl, stC_upd (i := 1) (by decide)⟩
        · have e1 : vs 1 = _ := hpre 1 (by decide) (by obtain rfl := Option.some.inj ho; rfl)
          simp only [zzV] at e1
          clear hn hpre hw
          obtain rfl := Option.some.inj ho
          simp only [canon, List.range, List.range.loop, List.foldl]
          go_simp
          exact ⟨rfl, stC_upd (i := 2) (by decide)⟩
        · have e2 : vs 2 = _ := hpre 2 (by decide) (by obtain rfl := Option.some.inj ho; rfl)
          simp only [zzV] at e2
          clear hn hpre hw
          obtain rfl := Option.some.inj ho
          simp only [canon, List.range, List.range.loop, List.foldl]
          go_simp
          exact ⟨rfl, stC_upd (i := 3) (by decide)⟩
        · have e3 : vs 3 = _ := hpre 3 (by decide) (by obtain rfl := Option.some.inj ho; rfl)
          simp only [zzV] at e3
          have h : f 10 = false := hn 10 _ rfl (by kernel_rfl)
          have c8 := stC_cell (a := 6) (b := 7) (W3 := U3) h HC8.out.1 HC8.out.2.1 HC8.out.2.2
          clear hn hpre hw
          obtain rfl := Option.some.inj ho
          simp only [canon, List.range, List.range.loop, List.foldl]
          go_simp
          exact ⟨rfl, stC_upd (i := 4) (by decide)⟩
        · have h : f 10 = false := hn 10 _ rfl (by kernel_rfl)
          have c9 := stC_cell (a := 6) (b := 7) (W3 := U3) h HC9.out.1 HC9.out.2.1 HC9.out.2.2
          clear hn hpre hw
          obtain rfl := Option.some.inj ho
          simp only [canon, List.range, List.range.loop, List.foldl]
          go_simp
          exact ⟨rfl, stC_upd (i := 5) (by decide)⟩
        · have e5 : vs 5 = _ := hpre 5 (by decide) (by obtain rfl := Option.some.inj ho; rfl)
          simp only [zzV] at e5
          have hb : f 7 = false := hn 7 _ rfl (by kernel_rfl)
          have hc : f 10 = false := hn 10 _ rfl (by kernel_rfl)
          rw [stC0 hfi hb hc]
          clear hn hpre hw
          obtain rfl := Option.some.inj ho
          simp only [canon, List.range, List.range.loop, List.foldl]
          go_simp
          exact ⟨by first | rfl | (simp [zzV]; exact HQ.out.symm), by simp [stC, hb, hc]; first | rfl | exact HU1.out.symm | exact HU1.out⟩
        · have e4 : vs 4 = _ := hpre 4 (by decide) (by obtain rfl := Option.some.inj ho; rfl)
          have e6 : vs 6 = _ := hpre 6 (by decide) (by obtain rfl := Option.some.inj ho; rfl)
          simp only [zzV] at e4 e6
          have ha : f 6 = true := hw 6 (by obtain rfl := Option.some.inj ho; kernel_rfl)
          have hc : f 10 = false := hn 10 _ rfl (by kernel_rfl)
          rw [stC1 ha hfi hc]
          have hap := HAP.out
          clear hn hpre hw
          obtain rfl := Option.some.inj ho
          simp only [canon, List.range, List.range.loop, List.foldl]
          refine Lib.wp_append_run _ _ _ _ _ rfl (.slice A l.length cap) (.slice (some ⟨q, 0, none⟩) 1 1) ?_ ?_ _ _ HAP.out ?_
          · go_simp
          · go_simp
          · refine ⟨_, rfl, rfl, ?_⟩
            simp [stC, hc]
        · have e0 : vs 0 = _ := hpre 0 (by decide) (by obtain rfl := Option.some.inj ho; rfl)
          simp only [zzV] at e0
          clear hn hpre hw
          obtain rfl := Option.some.inj ho
          simp only [canon, List.range, List.range.loop, List.foldl]
          go_simp
          exact ⟨rfl, stC_upd (i := 8) (by decide)⟩
        · have e8 : vs 8 = _ := hpre 8 (by decide) (by obtain rfl := Option.some.inj ho; rfl)
          simp only [zzV] at e8
          clear hn hpre hw
          obtain rfl := Option.some.inj ho
          simp only [canon, List.range, List.range.loop, List.foldl]
          go_simp
          exact ⟨rfl, stC_upd (i := 9) (by decide)⟩
        · have e9 : vs 9 = _ := hpre 9 (by decide) (by obtain rfl := Option.some.inj ho; rfl)
          have e7 : vs 7 = _ := hpre 7 (by decide) (by obtain rfl := Option.some.inj ho; rfl)
          simp only [zzV] at e9 e7
          have hb : f 7 = true := hw 7 (by obtain rfl := Option.some.inj ho; kernel_rfl)
          rw [stC2 hb hfi]
          have c8 := HC8.out.2.2
          have f8 := HF8.out
          clear hn hpre hw
          obtain rfl := Option.some.inj ho
          simp only [canon, List.range, List.range.loop, List.foldl]
          go_simp
          simp [stC]
          first | done | exact HU3.out.symm | exact HU3.out
        · omega
      · intro vs hvs
        change wpAny _ _ _ _ _ _ _ U3
        rw [canon_congr (us := zzV gh q A l cap (.string (strB s1)) A' cap') hvs]
        clear hvs
        refine wpAny_none (by kernel_rfl) ?_ _
        simp only [canon, List.range, List.range.loop, List.foldl, zzV]
        go_simp
        go_roundw
        case rel =>
          repeat apply Exists.intro
          exact ⟨⟨k3, j, l ++ [s1], l3, A', cap', HI'⟩, rfl⟩
        case measure => exact HMS.out

end Go.Proofs.YtkcpgcaccgahaaaGreatDoor
