/- Some texts in one: Dec6, Dec7. -/
import Derived.Test.YtkcpgcaccgahaaaGreatDoorDecA
namespace Go.Proofs.YtkcpgcaccgahaaaGreatDoor
open Go.RowKit

/-- The blocks of a decoder lie apart. -/
structure DecN (D : Nat → Prop) (gz gs gd gk gl gt : Nat) : Prop where
  nd : ¬ slD D gz gs gd
  nk : ¬ slD D gz gs gk
  nl : ¬ slD D gz gs gl
  nt : ¬ slD D gz gs gt
  td : gt ≠ gd
  tk : gt ≠ gk
  tl : gt ≠ gl
  dk : gd ≠ gk
  dl : gd ≠ gl
  kl : gk ≠ gl
/-- A decoder's state. -/
structure DecS (T : TypeId) (pv : Value) (S : Nat → World → Prop) (gz gs gd gk gl ph : Nat) (stk lft : List Nat) (k : Nat) (w : World) : Prop where
  sl : SlS T pv S gz gs k w
  d : DcAt w gd gs ph (.slice (some ⟨gk, 0, none⟩) stk.length 10) (.slice (some ⟨gl, 0, none⟩) lft.length 10)
  kb : ∃ ck : Array Value, w.heap[gk]? = some (.cells ck 231 (0, 0)) ∧ ck.size = 10 ∧ ∀ (i x : Nat), stk[i]? = some x → ck[i]? = some (.int .u8 x)
  lb : ∃ cl : Array Value, w.heap[gl]? = some (.cells cl 3 (0, 0)) ∧ cl.size = 10 ∧ ∀ (i x : Nat), lft[i]? = some x → cl[i]? = some (.int .i64 x)
def deO (O : Nat → Prop) (gz gs gd gk gl gt x : Nat) : Prop := slO O gz gs x ∨ x = gt ∨ x = gd ∨ x = gk ∨ x = gl
def deD (D : Nat → Prop) (gz gs gd gk gl x : Nat) : Prop := slD D gz gs x ∨ x = gd ∨ x = gk ∨ x = gl
theorem DecS.frame {T : TypeId} {pv : Value} {fr : FuncId} {bs : List UInt8} {ve vu vo vn : Value} {O D : Nat → Prop} {S : Nat → World → Prop} (H : Src T pv fr bs ve vu vo vn O D S) {gz gs gd gk gl ph k : Nat} {stk lft : List Nat} {w w' : World} (h : DecS T pv S gz gs gd gk gl ph stk lft k w) (he : Ex (fun x => ¬ deD D gz gs gd gk gl x) w w') : DecS T pv S gz gs gd gk gl ph stk lft k w' := by
  obtain ⟨h1, h2, ⟨ck, h3, h4⟩, cl, h5, h6⟩ := h
  exact ⟨h1.frame H (he.mono (fun x hx hd => hx (.inl hd))), he.keep h2 (fun hx => hx (.inr (.inl rfl))), ⟨ck, he.keep h3 (fun hx => hx (.inr (.inr (.inl rfl)))), h4⟩, cl, he.keep h5 (fun hx => hx (.inr (.inr (.inr rfl)))), h6⟩
theorem tok_two {tcs : Array Value} (hs : tcs.size = 10) (j : Nat) (hj : j < 10) (h0 : j ≠ 0) (a b : Value) : ((tcs.setIfInBounds 0 a).setIfInBounds j b).size = 10 ∧ ((tcs.setIfInBounds 0 a).setIfInBounds j b)[0]? = some a ∧ ((tcs.setIfInBounds 0 a).setIfInBounds j b)[j]? = some b := by
  refine ⟨by simpa using hs, ?_, ?_⟩
  · rw [Array.getElem?_setIfInBounds, if_neg h0, Array.getElem?_setIfInBounds, if_pos rfl, if_pos (by omega)]
  · rw [Array.getElem?_setIfInBounds, if_pos rfl, if_pos (by simp; omega)]
/-- What a token says. -/
def TokR (w : World) (gt code i : Nat) (v : Value) : Prop := ∃ tcs : Array Value, w.heap[gt]? = some (.cells tcs 192 (0, 0)) ∧ tcs.size = 10 ∧ tcs[0]? = some (.int .u8 code) ∧ tcs[i]? = some v


set_option maxHeartbeats 8000000 in
set_option maxRecDepth 100000 in
/-- A key of a map: a text. -/
theorem keyIn_calls (T : TypeId) (pv : Value) (fr : FuncId) (bs : List UInt8) (ve vu vo vn : Value) (O D : Nat → Prop) (S : Nat → World → Prop) (H : Src T pv fr bs ve vu vo vn O D S) (gz gs : Nat) (hz : ¬ D gz) (hs : ¬ D gs) (hzs : gz ≠ gs) (gd gk gl gt n k : Nat) (w : World) (tcs : Array Value) (b : UInt8) (s r : List UInt8) (hN : DecN D gz gs gd gk gl gt) (hS : DecS T pv S gz gs gd gk gl 5 [0] [n + 1] k w) (ht : w.heap[gt]? = some (.cells tcs 192 (0, 0))) (hts : tcs.size = 10) (hx : bs[k]? = some b) (hv : cbVal b (bs.drop (k + 1)) = some (.str s, r)) (hn : n + 1 ≤ 9223372036854775807) :
    Calls Tryz.prog 128 #[.pointer (some ⟨gd, 0, none⟩), .pointer (some ⟨gt, 0, none⟩)] w fun e w' => e = .returned (.tuple #[.bool false, .nilIface]) ∧ (∃ k', r = bs.drop k' ∧ DecS T pv S gz gs gd gk gl 6 [0] [n] k' w') ∧ TokR w' gt 115 2 (.string (strB s)) ∧ Ex (deO O gz gs gd gk gl gt) w w' := by
  obtain ⟨h1, h2, ⟨ck, h3, h3s, h3v⟩, cl, h5, h5s, h5v⟩ := hS
  have hm : ∀ W, (method 453 262 (.pointer (some ⟨gs, 0, none⟩)) "Readn1").run Tryz.prog W = .ok (256, .pointer (some ⟨gs, 0, none⟩)) W := fun _ => by kernel_rfl
  obtain ⟨m, r1, hbr, ha, hm3, rfl, rfl⟩ := cbVal_str hv
  have c10 : w.cell? ⟨gd, 10, none⟩ = some (.slice (some ⟨gl, 0, none⟩) 1 10) := blk_cell h2 10
  have cl0 : w.cell? ⟨gl, 0, none⟩ = some (.int .i64 ((n + 1 : Nat) : Int)) := (blk_cell h5 0).trans (h5v 0 (n + 1) rfl)
  have fl0 := blk_frozen h5 0
  have qn : (((n + 1 : Nat) : Int) == 0) = false := beq_eq_false_iff_ne.2 (by omega)
  have hx0 : Ex (fun x => x = gl) w (w.setCell ⟨gl, 0, none⟩ (.int .i64 n)) := (Ex.refl (fun x => x = gl) w).setCell (p := ⟨gl, 0, none⟩) rfl _
  have hd0 : DcAt (w.setCell ⟨gl, 0, none⟩ (.int .i64 n)) gd gs 5 (.slice (some ⟨gk, 0, none⟩) 1 10) (.slice (some ⟨gl, 0, none⟩) 1 10) := hx0.keep h2 hN.dl
  have hk0 := hx0.keep h3 hN.kl
  have ht0 := hx0.keep ht hN.tl
  have hl0 : ∃ cl' : Array Value, (w.setCell ⟨gl, 0, none⟩ (.int .i64 n)).heap[gl]? = some (.cells cl' 3 (0, 0)) ∧ cl'.size = 10 ∧ ∀ (i x : Nat), ([n] : List Nat)[i]? = some x → cl'[i]? = some (.int .i64 x) := by
    refine ⟨_, blk_set h5 0 _, by simpa using h5s, fun i x hi => ?_⟩
    rw [Array.getElem?_setIfInBounds]
    by_cases hi0 : 0 = i
    · subst hi0
      rw [if_pos rfl, if_pos (by omega)]
      simp at hi
      rw [hi]
    · rw [if_neg hi0]
      refine h5v i x ?_
      rcases i with _ | _ | i <;> first | exact hi | omega | (simp at hi hi0 ⊢; done) | (simp at hi ⊢; exact hi)
  have hs0 := h1.frame H (hx0.mono (fun x hx hd => hN.nl (hx ▸ hd)))
  have c7 : (w.setCell ⟨gl, 0, none⟩ (.int .i64 n)).cell? ⟨gd, 7, none⟩ = some (.iface 262 (.pointer (some ⟨gs, 0, none⟩))) := blk_cell hd0 7
  have HR := Kp.mk (readn1_calls T pv fr bs ve vu vo vn O D S H gz gs hz hs hzs k (w.setCell ⟨gl, 0, none⟩ (.int .i64 n)) b hs0 hx)
  have HH := Kp.mk H
  have HP := Kp.mk (And.intro hz (And.intro hs hzs))
  have HN := Kp.mk hN
  have HB := Kp.mk (And.intro hd0 (And.intro hk0 (And.intro ht0 (And.intro hl0 (And.intro hx0 (And.intro h3s (And.intro h3v hts)))))))
  have HA := Kp.mk (And.intro hbr (And.intro ha hm3))
  clear hbr ha hm3 hv
  clear H hz hs hzs hN h1 h2 h3 h3s h3v h5 h5s h5v ht hts hx hx0 hd0 hk0 ht0 hl0 hs0
  go_enter Tryz.func128, Tryz.ntmps128
  go_wp2_with fail
  refine HR.out.mono ?_
  rintro e w1 ⟨rfl, h1, h2⟩
  obtain ⟨hd0, hk0, ht0, ⟨cl', hl0, hls, hlv⟩, hx0, hks, hkv, hts⟩ := HB.out
  obtain ⟨nd, nk, nl, nt, td, tk, tl, dk, dl, kl⟩ := HN.out
  have hnO : ∀ x, ¬ slD D gz gs x → ¬ slO O gz gs x := fun x hx h => hx (slO_D HH.out h)
  have hd1 : DcAt w1 gd gs 5 (.slice (some ⟨gk, 0, none⟩) 1 10) (.slice (some ⟨gl, 0, none⟩) 1 10) := h2.keep hd0 (hnO _ nd)
  have hk1 := h2.keep hk0 (hnO _ nk)
  have hl1 := h2.keep hl0 (hnO _ nl)
  have ht1 := h2.keep ht0 (hnO _ nt)
  have c9 : w1.cell? ⟨gd, 9, none⟩ = some (.int .u8 5) := blk_cell hd1 9
  have f9 := blk_frozen hd1 9
  have hx1 : Ex (fun x => x = gd) w1 (w1.setCell ⟨gd, 9, none⟩ (.int .u8 6)) := (Ex.refl (fun x => x = gd) w1).setCell (p := ⟨gd, 9, none⟩) rfl _
  have hd1' : DcAt (w1.setCell ⟨gd, 9, none⟩ (.int .u8 6)) gd gs 6 (.slice (some ⟨gk, 0, none⟩) 1 10) (.slice (some ⟨gl, 0, none⟩) 1 10) := blk_set hd1 9 _
  have ht1' := hx1.keep ht1 td
  obtain ⟨v8, c8⟩ := blk_in ht1' 8 (by omega)
  have f8 := blk_frozen ht1' 8
  have ht2 := blk_set ht1' 8 (.bool false)
  have hx2 : Ex (fun x => x = gd ∨ x = gt) w1 ((w1.setCell ⟨gd, 9, none⟩ (.int .u8 6)).setCell ⟨gt, 8, none⟩ (.bool false)) := (hx1.mono (fun x hx => .inl hx)).setCell (p := ⟨gt, 8, none⟩) (.inr rfl) _
  have d2 : DcAt ((w1.setCell ⟨gd, 9, none⟩ (.int .u8 6)).setCell ⟨gt, 8, none⟩ (.bool false)) gd gs 6 (.slice (some ⟨gk, 0, none⟩) 1 10) (.slice (some ⟨gl, 0, none⟩) 1 10) := blk_far (p := ⟨gt, 8, none⟩) hd1' (by show gd ≠ gt; exact td.symm) _
  have kb2 := hx2.keep hk1 (fun h => h.elim (fun e => dk e.symm) (fun e => tk e.symm))
  have lb2 := hx2.keep hl1 (fun h => h.elim (fun e => dl e.symm) (fun e => tl e.symm))
  have sl2 := h1.frame HH.out (hx2.mono (fun x hx hd => hx.elim (fun e => nd (e ▸ hd)) (fun e => nt (e ▸ hd))))
  have hxa : Ex (deO O gz gs gd gk gl gt) w ((w1.setCell ⟨gd, 9, none⟩ (.int .u8 6)).setCell ⟨gt, 8, none⟩ (.bool false)) := ((hx0.mono (fun x hx => .inr (.inr (.inr (.inr hx))))).trans (h2.mono (fun x hx => .inl hx))).trans (hx2.mono (fun x hx => hx.elim (fun h => .inr (.inr (.inl h))) (fun h => .inr (.inl h))))
  have HV := Kp.mk (valStr_calls T pv fr bs ve vu vo vn O D S HH.out gz gs HP.out.1 HP.out.2.1 HP.out.2.2 gd 6 _ _ nd (k + 1) _ b.toNat m r1 HA.out.1.1 HA.out.1.2 sl2 d2 gt _ nt td ht2 (by simpa using hts) HA.out.2.1 HA.out.2.2.1 HA.out.2.2.2.1 HA.out.2.2.2.2)
  have HE := Kp.mk (And.intro d2 (And.intro kb2 (And.intro lb2 (And.intro hxa (And.intro hks (And.intro hkv (And.intro hls (And.intro hlv hts))))))))
  clear h1 h2 hd0 hk0 ht0 hl0 hx0 hd1 hk1 hl1 ht1 hx1 hd1' ht1' ht2 hx2 d2 kb2 lb2 sl2 hxa hnO nd nk nl nt td tk tl dk dl kl HR HB c7 hks hkv hls hlv hts
  go_wp2_with fail
  refine HV.out.mono ?_
  rintro e w3 ⟨⟨dn, rfl⟩, h1, h4, h5⟩
  have HK := Kp.mk (And.intro h1 (And.intro h4 h5))
  clear h1 h4 h5
  clear HV
  go_wp2_with fail
  go_ret2
  obtain ⟨d2, kb2, lb2, hxa, hks, hkv, hls, hlv, hts⟩ := HE.out
  obtain ⟨nd, nk, nl, nt, td, tk, tl, dk, dl, kl⟩ := HN.out
  have hnO : ∀ x, ¬ slD D gz gs x → ¬ slO O gz gs x := fun x hx h => hx (slO_D HH.out h)
  obtain ⟨h1, h4, h5⟩ := HK.out
  obtain ⟨k', hk', hsl⟩ := h1
  have hd3 := h5.keep d2 (fun h => h.elim (hnO _ nd) (fun e => td e.symm))
  have hk3 := h5.keep kb2 (fun h => h.elim (hnO _ nk) (fun e => tk e.symm))
  have hl3 := h5.keep lb2 (fun h => h.elim (hnO _ nl) (fun e => tl e.symm))
  exact ⟨rfl, ⟨k', hk', hsl, hd3, ⟨ck, hk3, hks, hkv⟩, cl', hl3, hls, hlv⟩, ⟨_, h4, tok_two (by simpa using hts) 2 (by decide) (by decide) _ _⟩, hxa.trans (h5.mono (fun x hx => hx.elim .inl (fun e => .inr (.inl e))))⟩

set_option maxHeartbeats 8000000 in
set_option maxRecDepth 100000 in
/-- A value of a map: a number. -/
theorem valInU_calls (T : TypeId) (pv : Value) (fr : FuncId) (bs : List UInt8) (ve vu vo vn : Value) (O D : Nat → Prop) (S : Nat → World → Prop) (H : Src T pv fr bs ve vu vo vn O D S) (gz gs : Nat) (hz : ¬ D gz) (hs : ¬ D gs) (hzs : gz ≠ gs) (gd gk gl gt n k : Nat) (w : World) (tcs : Array Value) (b : UInt8) (x : Nat) (r : List UInt8) (hN : DecN D gz gs gd gk gl gt) (hS : DecS T pv S gz gs gd gk gl 6 [0] [n] k w) (ht : w.heap[gt]? = some (.cells tcs 192 (0, 0))) (hts : tcs.size = 10) (hx : bs[k]? = some b) (hv : cbVal b (bs.drop (k + 1)) = some (.uint x, r)) :
    Calls Tryz.prog 129 #[.pointer (some ⟨gd, 0, none⟩), .pointer (some ⟨gt, 0, none⟩)] w fun e w' => e = .returned (.tuple #[.bool false, .nilIface]) ∧ (∃ k', r = bs.drop k' ∧ DecS T pv S gz gs gd gk gl 5 [0] [n] k' w') ∧ TokR w' gt 117 6 (.int .u64 x) ∧ Ex (deO O gz gs gd gk gl gt) w w' := by
  obtain ⟨h1, h2, ⟨ck, h3, h3s, h3v⟩, cl, h5, h5s, h5v⟩ := hS
  have hm : ∀ W, (method 453 262 (.pointer (some ⟨gs, 0, none⟩)) "Readn1").run Tryz.prog W = .ok (256, .pointer (some ⟨gs, 0, none⟩)) W := fun _ => by kernel_rfl
  obtain ⟨hbr, ha⟩ := cbVal_uint hv
  have hx0 : Ex (fun x => x = gl) w w := Ex.refl _ w
  have hd0 : DcAt w gd gs 6 (.slice (some ⟨gk, 0, none⟩) 1 10) (.slice (some ⟨gl, 0, none⟩) 1 10) := h2
  have hk0 := h3
  have ht0 := ht
  have hl0 : ∃ cl' : Array Value, w.heap[gl]? = some (.cells cl' 3 (0, 0)) ∧ cl'.size = 10 ∧ ∀ (i x : Nat), ([n] : List Nat)[i]? = some x → cl'[i]? = some (.int .i64 x) := ⟨cl, h5, h5s, h5v⟩
  have hs0 := h1
  have c7 : w.cell? ⟨gd, 7, none⟩ = some (.iface 262 (.pointer (some ⟨gs, 0, none⟩))) := blk_cell hd0 7
  have HR := Kp.mk (readn1_calls T pv fr bs ve vu vo vn O D S H gz gs hz hs hzs k w b hs0 hx)
  have HH := Kp.mk H
  have HP := Kp.mk (And.intro hz (And.intro hs hzs))
  have HN := Kp.mk hN
  have HB := Kp.mk (And.intro hd0 (And.intro hk0 (And.intro ht0 (And.intro hl0 (And.intro hx0 (And.intro h3s (And.intro h3v hts)))))))
  have HA := Kp.mk (And.intro hbr ha)
  clear hbr ha hv
  clear H hz hs hzs hN h1 h2 h3 h3s h3v h5 h5s h5v ht hts hx hx0 hd0 hk0 ht0 hl0 hs0
  go_enter Tryz.func129, Tryz.ntmps129
  go_wp2_with fail
  refine HR.out.mono ?_
  rintro e w1 ⟨rfl, h1, h2⟩
  obtain ⟨hd0, hk0, ht0, ⟨cl', hl0, hls, hlv⟩, hx0, hks, hkv, hts⟩ := HB.out
  obtain ⟨nd, nk, nl, nt, td, tk, tl, dk, dl, kl⟩ := HN.out
  have hnO : ∀ x, ¬ slD D gz gs x → ¬ slO O gz gs x := fun x hx h => hx (slO_D HH.out h)
  have hd1 : DcAt w1 gd gs 6 (.slice (some ⟨gk, 0, none⟩) 1 10) (.slice (some ⟨gl, 0, none⟩) 1 10) := h2.keep hd0 (hnO _ nd)
  have hk1 := h2.keep hk0 (hnO _ nk)
  have hl1 := h2.keep hl0 (hnO _ nl)
  have ht1 := h2.keep ht0 (hnO _ nt)
  have c9 : w1.cell? ⟨gd, 9, none⟩ = some (.int .u8 6) := blk_cell hd1 9
  have f9 := blk_frozen hd1 9
  have hx1 : Ex (fun x => x = gd) w1 (w1.setCell ⟨gd, 9, none⟩ (.int .u8 5)) := (Ex.refl (fun x => x = gd) w1).setCell (p := ⟨gd, 9, none⟩) rfl _
  have hd1' : DcAt (w1.setCell ⟨gd, 9, none⟩ (.int .u8 5)) gd gs 5 (.slice (some ⟨gk, 0, none⟩) 1 10) (.slice (some ⟨gl, 0, none⟩) 1 10) := blk_set hd1 9 _
  have ht1' := hx1.keep ht1 td
  obtain ⟨v8, c8⟩ := blk_in ht1' 8 (by omega)
  have f8 := blk_frozen ht1' 8
  have ht2 := blk_set ht1' 8 (.bool false)
  have hx2 : Ex (fun x => x = gd ∨ x = gt) w1 ((w1.setCell ⟨gd, 9, none⟩ (.int .u8 5)).setCell ⟨gt, 8, none⟩ (.bool false)) := (hx1.mono (fun x hx => .inl hx)).setCell (p := ⟨gt, 8, none⟩) (.inr rfl) _
  have d2 : DcAt ((w1.setCell ⟨gd, 9, none⟩ (.int .u8 5)).setCell ⟨gt, 8, none⟩ (.bool false)) gd gs 5 (.slice (some ⟨gk, 0, none⟩) 1 10) (.slice (some ⟨gl, 0, none⟩) 1 10) := blk_far (p := ⟨gt, 8, none⟩) hd1' (by show gd ≠ gt; exact td.symm) _
  have kb2 := hx2.keep hk1 (fun h => h.elim (fun e => dk e.symm) (fun e => tk e.symm))
  have lb2 := hx2.keep hl1 (fun h => h.elim (fun e => dl e.symm) (fun e => tl e.symm))
  have sl2 := h1.frame HH.out (hx2.mono (fun x hx hd => hx.elim (fun e => nd (e ▸ hd)) (fun e => nt (e ▸ hd))))
  have hxa : Ex (deO O gz gs gd gk gl gt) w ((w1.setCell ⟨gd, 9, none⟩ (.int .u8 5)).setCell ⟨gt, 8, none⟩ (.bool false)) := ((hx0.mono (fun x hx => .inr (.inr (.inr (.inr hx))))).trans (h2.mono (fun x hx => .inl hx))).trans (hx2.mono (fun x hx => hx.elim (fun h => .inr (.inr (.inl h))) (fun h => .inr (.inl h))))
  have HV := Kp.mk (valUint_calls T pv fr bs ve vu vo vn O D S HH.out gz gs HP.out.1 HP.out.2.1 HP.out.2.2 gd 5 _ _ nd (k + 1) _ b.toNat x r HA.out.1 sl2 d2 gt _ nt td ht2 (by simpa using hts) HA.out.2)
  have HE := Kp.mk (And.intro d2 (And.intro kb2 (And.intro lb2 (And.intro hxa (And.intro hks (And.intro hkv (And.intro hls (And.intro hlv hts))))))))
  clear h1 h2 hd0 hk0 ht0 hl0 hx0 hd1 hk1 hl1 ht1 hx1 hd1' ht1' ht2 hx2 d2 kb2 lb2 sl2 hxa hnO nd nk nl nt td tk tl dk dl kl HR HB c7 hks hkv hls hlv hts
  go_wp2_with fail
  refine HV.out.mono ?_
  rintro e w3 ⟨⟨dn, rfl⟩, h1, h4, h5⟩
  have HK := Kp.mk (And.intro h1 (And.intro h4 h5))
  clear h1 h4 h5
  clear HV
  go_wp2_with fail
  go_ret2
  obtain ⟨d2, kb2, lb2, hxa, hks, hkv, hls, hlv, hts⟩ := HE.out
  obtain ⟨nd, nk, nl, nt, td, tk, tl, dk, dl, kl⟩ := HN.out
  have hnO : ∀ x, ¬ slD D gz gs x → ¬ slO O gz gs x := fun x hx h => hx (slO_D HH.out h)
  obtain ⟨h1, h4, h5⟩ := HK.out
  obtain ⟨k', hk', hsl⟩ := h1
  have hd3 := h5.keep d2 (fun h => h.elim (hnO _ nd) (fun e => td e.symm))
  have hk3 := h5.keep kb2 (fun h => h.elim (hnO _ nk) (fun e => tk e.symm))
  have hl3 := h5.keep lb2 (fun h => h.elim (hnO _ nl) (fun e => tl e.symm))
  exact ⟨rfl, ⟨k', hk', hsl, hd3, ⟨ck, hk3, hks, hkv⟩, cl', hl3, hls, hlv⟩, ⟨_, h4, tok_two (by simpa using hts) 6 (by decide) (by decide) _ _⟩, hxa.trans (h5.mono (fun x hx => hx.elim .inl (fun e => .inr (.inl e))))⟩

set_option maxHeartbeats 8000000 in
set_option maxRecDepth 100000 in
/-- A value of a map: an array's head. -/
theorem valInA_calls (T : TypeId) (pv : Value) (fr : FuncId) (bs : List UInt8) (ve vu vo vn : Value) (O D : Nat → Prop) (S : Nat → World → Prop) (H : Src T pv fr bs ve vu vo vn O D S) (gz gs : Nat) (hz : ¬ D gz) (hs : ¬ D gs) (hzs : gz ≠ gs) (gd gk gl gt n k : Nat) (w : World) (tcs : Array Value) (b : UInt8) (x : Nat) (r : List UInt8) (hN : DecN D gz gs gd gk gl gt) (hS : DecS T pv S gz gs gd gk gl 6 [0] [n] k w) (ht : w.heap[gt]? = some (.cells tcs 192 (0, 0))) (hts : tcs.size = 10) (hx : bs[k]? = some b) (hv : cbVal b (bs.drop (k + 1)) = some (.arr x, r)) :
    Calls Tryz.prog 129 #[.pointer (some ⟨gd, 0, none⟩), .pointer (some ⟨gt, 0, none⟩)] w fun e w' => e = .returned (.tuple #[.bool false, .nilIface]) ∧ (∃ k', r = bs.drop k' ∧ DecS T pv S gz gs gd gk gl 4 [0, 5] [n, x] k' w') ∧ TokR w' gt 91 1 (.int .i64 x) ∧ Ex (deO O gz gs gd gk gl gt) w w' := by
  obtain ⟨h1, h2, ⟨ck, h3, h3s, h3v⟩, cl, h5, h5s, h5v⟩ := hS
  have hm : ∀ W, (method 453 262 (.pointer (some ⟨gs, 0, none⟩)) "Readn1").run Tryz.prog W = .ok (256, .pointer (some ⟨gs, 0, none⟩)) W := fun _ => by kernel_rfl
  obtain ⟨hbr, ha⟩ := cbVal_arr hv
  have hx0 : Ex (fun x => x = gl) w w := Ex.refl _ w
  have hd0 : DcAt w gd gs 6 (.slice (some ⟨gk, 0, none⟩) 1 10) (.slice (some ⟨gl, 0, none⟩) 1 10) := h2
  have hk0 := h3
  have ht0 := ht
  have hl0 : ∃ cl' : Array Value, w.heap[gl]? = some (.cells cl' 3 (0, 0)) ∧ cl'.size = 10 ∧ ∀ (i x : Nat), ([n] : List Nat)[i]? = some x → cl'[i]? = some (.int .i64 x) := ⟨cl, h5, h5s, h5v⟩
  have hs0 := h1
  have c7 : w.cell? ⟨gd, 7, none⟩ = some (.iface 262 (.pointer (some ⟨gs, 0, none⟩))) := blk_cell hd0 7
  have HR := Kp.mk (readn1_calls T pv fr bs ve vu vo vn O D S H gz gs hz hs hzs k w b hs0 hx)
  have HH := Kp.mk H
  have HP := Kp.mk (And.intro hz (And.intro hs hzs))
  have HN := Kp.mk hN
  have HB := Kp.mk (And.intro hd0 (And.intro hk0 (And.intro ht0 (And.intro hl0 (And.intro hx0 (And.intro h3s (And.intro h3v hts)))))))
  have HA := Kp.mk (And.intro hbr ha)
  clear hbr ha hv
  clear H hz hs hzs hN h1 h2 h3 h3s h3v h5 h5s h5v ht hts hx hx0 hd0 hk0 ht0 hl0 hs0
  go_enter Tryz.func129, Tryz.ntmps129
  go_wp2_with fail
  refine HR.out.mono ?_
  rintro e w1 ⟨rfl, h1, h2⟩
  obtain ⟨hd0, hk0, ht0, ⟨cl', hl0, hls, hlv⟩, hx0, hks, hkv, hts⟩ := HB.out
  obtain ⟨nd, nk, nl, nt, td, tk, tl, dk, dl, kl⟩ := HN.out
  have hnO : ∀ x, ¬ slD D gz gs x → ¬ slO O gz gs x := fun x hx h => hx (slO_D HH.out h)
  have hd1 : DcAt w1 gd gs 6 (.slice (some ⟨gk, 0, none⟩) 1 10) (.slice (some ⟨gl, 0, none⟩) 1 10) := h2.keep hd0 (hnO _ nd)
  have hk1 := h2.keep hk0 (hnO _ nk)
  have hl1 := h2.keep hl0 (hnO _ nl)
  have ht1 := h2.keep ht0 (hnO _ nt)
  have c9 : w1.cell? ⟨gd, 9, none⟩ = some (.int .u8 6) := blk_cell hd1 9
  have f9 := blk_frozen hd1 9
  have hx1 : Ex (fun x => x = gd) w1 (w1.setCell ⟨gd, 9, none⟩ (.int .u8 5)) := (Ex.refl (fun x => x = gd) w1).setCell (p := ⟨gd, 9, none⟩) rfl _
  have hd1' : DcAt (w1.setCell ⟨gd, 9, none⟩ (.int .u8 5)) gd gs 5 (.slice (some ⟨gk, 0, none⟩) 1 10) (.slice (some ⟨gl, 0, none⟩) 1 10) := blk_set hd1 9 _
  have ht1' := hx1.keep ht1 td
  obtain ⟨v8, c8⟩ := blk_in ht1' 8 (by omega)
  have f8 := blk_frozen ht1' 8
  have ht2 := blk_set ht1' 8 (.bool false)
  have hx2 : Ex (fun x => x = gd ∨ x = gt) w1 ((w1.setCell ⟨gd, 9, none⟩ (.int .u8 5)).setCell ⟨gt, 8, none⟩ (.bool false)) := (hx1.mono (fun x hx => .inl hx)).setCell (p := ⟨gt, 8, none⟩) (.inr rfl) _
  have d2 : DcAt ((w1.setCell ⟨gd, 9, none⟩ (.int .u8 5)).setCell ⟨gt, 8, none⟩ (.bool false)) gd gs 5 (.slice (some ⟨gk, 0, none⟩) 1 10) (.slice (some ⟨gl, 0, none⟩) 1 10) := blk_far (p := ⟨gt, 8, none⟩) hd1' (by show gd ≠ gt; exact td.symm) _
  have kb2 := hx2.keep hk1 (fun h => h.elim (fun e => dk e.symm) (fun e => tk e.symm))
  have lb2 := hx2.keep hl1 (fun h => h.elim (fun e => dl e.symm) (fun e => tl e.symm))
  have sl2 := h1.frame HH.out (hx2.mono (fun x hx hd => hx.elim (fun e => nd (e ▸ hd)) (fun e => nt (e ▸ hd))))
  have hxa : Ex (deO O gz gs gd gk gl gt) w ((w1.setCell ⟨gd, 9, none⟩ (.int .u8 5)).setCell ⟨gt, 8, none⟩ (.bool false)) := ((hx0.mono (fun x hx => .inr (.inr (.inr (.inr hx))))).trans (h2.mono (fun x hx => .inl hx))).trans (hx2.mono (fun x hx => hx.elim (fun h => .inr (.inr (.inl h))) (fun h => .inr (.inl h))))
  have HV := Kp.mk (valArr_calls T pv fr bs ve vu vo vn O D S HH.out gz gs HP.out.1 HP.out.2.1 HP.out.2.2 gd gk gl gt 5 1 1 ck cl' _ (k + 1) _ b.toNat x r HA.out.1.1 HA.out.1.2 ⟨nd, nk, nl, nt⟩ ⟨td, tl.symm, dk.symm, dl.symm, kl.symm, tk, trivial⟩ sl2 d2 kb2 hks (by decide) lb2 hls (by decide) ht2 (by simpa using hts) HA.out.2)
  have HE := Kp.mk (And.intro d2 (And.intro kb2 (And.intro lb2 (And.intro hxa (And.intro hks (And.intro hkv (And.intro hls (And.intro hlv hts))))))))
  clear h1 h2 hd0 hk0 ht0 hl0 hx0 hd1 hk1 hl1 ht1 hx1 hd1' ht1' ht2 hx2 d2 kb2 lb2 sl2 hxa hnO nd nk nl nt td tk tl dk dl kl HR HB c7 hks hkv hls hlv hts
  go_wp2_with fail
  refine HV.out.mono ?_
  rintro e w3 ⟨rfl, h1, h3, hk3, hl3, h4, h5⟩
  have HK := Kp.mk (And.intro h1 (And.intro h3 (And.intro hk3 (And.intro hl3 (And.intro h4 h5)))))
  clear h1 h3 hk3 hl3 h4 h5
  clear HV
  go_wp2_with fail
  go_ret2
  obtain ⟨d2, kb2, lb2, hxa, hks, hkv, hls, hlv, hts⟩ := HE.out
  obtain ⟨nd, nk, nl, nt, td, tk, tl, dk, dl, kl⟩ := HN.out
  have hnO : ∀ x, ¬ slD D gz gs x → ¬ slO O gz gs x := fun x hx h => hx (slO_D HH.out h)
  obtain ⟨h1, h3, hk3, hl3, h4, h5⟩ := HK.out
  obtain ⟨k', hk', hsl⟩ := h1
  refine ⟨rfl, ⟨k', hk', hsl, h3, ⟨_, hk3, by simpa using hks, fun i x hi => ?_⟩, _, hl3, by simpa using hls, fun i x hi => ?_⟩, ⟨_, h4, tok_two (by simpa using hts) 1 (by decide) (by decide) _ _⟩, hxa.trans (h5.mono (fun x hx => hx))⟩
  · rw [Array.getElem?_setIfInBounds]
    by_cases hi0 : 1 = i
    · subst hi0
      rw [if_pos rfl, if_pos (by omega)]
      simp at hi
      rw [← hi]
    · rw [if_neg hi0]
      refine hkv i x ?_
      rcases i with _ | _ | i <;> first | exact hi | omega | (simp at hi hi0 ⊢; done) | (simp at hi ⊢; exact hi)
  · rw [Array.getElem?_setIfInBounds]
    by_cases hi0 : 1 = i
    · subst hi0
      rw [if_pos rfl, if_pos (by omega)]
      simp at hi
      rw [← hi]
    · rw [if_neg hi0]
      refine hlv i x ?_
      rcases i with _ | _ | i <;> first | exact hi | omega | (simp at hi hi0 ⊢; done) | (simp at hi ⊢; exact hi)

set_option maxHeartbeats 8000000 in
set_option maxRecDepth 100000 in
/-- The first item: a map's head. -/
theorem openIn_calls (T : TypeId) (pv : Value) (fr : FuncId) (bs : List UInt8) (ve vu vo vn : Value) (O D : Nat → Prop) (S : Nat → World → Prop) (H : Src T pv fr bs ve vu vo vn O D S) (gz gs : Nat) (hz : ¬ D gz) (hs : ¬ D gs) (hzs : gz ≠ gs) (gd gk gl gt k : Nat) (w : World) (tcs : Array Value) (b : UInt8) (x : Nat) (r : List UInt8) (hN : DecN D gz gs gd gk gl gt) (hS : DecS T pv S gz gs gd gk gl 0 [] [] k w) (ht : w.heap[gt]? = some (.cells tcs 192 (0, 0))) (hts : tcs.size = 10) (hx : bs[k]? = some b) (hv : cbVal b (bs.drop (k + 1)) = some (.map x, r)) :
    Calls Tryz.prog 123 #[.pointer (some ⟨gd, 0, none⟩), .pointer (some ⟨gt, 0, none⟩)] w fun e w' => e = .returned (.tuple #[.bool false, .nilIface]) ∧ (∃ k', r = bs.drop k' ∧ DecS T pv S gz gs gd gk gl 5 [0] [x] k' w') ∧ TokR w' gt 123 1 (.int .i64 x) ∧ Ex (deO O gz gs gd gk gl gt) w w' := by
  obtain ⟨h1, h2, ⟨ck, h3, h3s, h3v⟩, cl, h5, h5s, h5v⟩ := hS
  have hm : ∀ W, (method 453 262 (.pointer (some ⟨gs, 0, none⟩)) "Readn1").run Tryz.prog W = .ok (256, .pointer (some ⟨gs, 0, none⟩)) W := fun _ => by kernel_rfl
  obtain ⟨hbr, ha⟩ := cbVal_map hv
  have hx0 : Ex (fun x => x = gl) w w := Ex.refl _ w
  have hd0 : DcAt w gd gs 0 (.slice (some ⟨gk, 0, none⟩) 0 10) (.slice (some ⟨gl, 0, none⟩) 0 10) := h2
  have hk0 := h3
  have ht0 := ht
  have hl0 : ∃ cl' : Array Value, w.heap[gl]? = some (.cells cl' 3 (0, 0)) ∧ cl'.size = 10 ∧ ∀ (i x : Nat), ([] : List Nat)[i]? = some x → cl'[i]? = some (.int .i64 x) := ⟨cl, h5, h5s, h5v⟩
  have hs0 := h1
  have c7 : w.cell? ⟨gd, 7, none⟩ = some (.iface 262 (.pointer (some ⟨gs, 0, none⟩))) := blk_cell hd0 7
  have HR := Kp.mk (readn1_calls T pv fr bs ve vu vo vn O D S H gz gs hz hs hzs k w b hs0 hx)
  have HH := Kp.mk H
  have HP := Kp.mk (And.intro hz (And.intro hs hzs))
  have HN := Kp.mk hN
  have HB := Kp.mk (And.intro hd0 (And.intro hk0 (And.intro ht0 (And.intro hl0 (And.intro hx0 (And.intro h3s (And.intro h3v hts)))))))
  have HA := Kp.mk (And.intro hbr ha)
  clear hbr ha hv
  clear H hz hs hzs hN h1 h2 h3 h3s h3v h5 h5s h5v ht hts hx hx0 hd0 hk0 ht0 hl0 hs0
  go_enter Tryz.func123, Tryz.ntmps123
  go_wp2_with fail
  refine HR.out.mono ?_
  rintro e w1 ⟨rfl, h1, h2⟩
  obtain ⟨hd0, hk0, ht0, ⟨cl', hl0, hls, hlv⟩, hx0, hks, hkv, hts⟩ := HB.out
  obtain ⟨nd, nk, nl, nt, td, tk, tl, dk, dl, kl⟩ := HN.out
  have hnO : ∀ x, ¬ slD D gz gs x → ¬ slO O gz gs x := fun x hx h => hx (slO_D HH.out h)
  have hd1 : DcAt w1 gd gs 0 (.slice (some ⟨gk, 0, none⟩) 0 10) (.slice (some ⟨gl, 0, none⟩) 0 10) := h2.keep hd0 (hnO _ nd)
  have hk1 := h2.keep hk0 (hnO _ nk)
  have hl1 := h2.keep hl0 (hnO _ nl)
  have ht1 := h2.keep ht0 (hnO _ nt)
  have hx1 : Ex (fun x => x = gd) w1 w1 := Ex.refl _ w1
  have hd1' : DcAt w1 gd gs 0 (.slice (some ⟨gk, 0, none⟩) 0 10) (.slice (some ⟨gl, 0, none⟩) 0 10) := hd1
  have ht1' := hx1.keep ht1 td
  obtain ⟨v8, c8⟩ := blk_in ht1' 8 (by omega)
  have f8 := blk_frozen ht1' 8
  have ht2 := blk_set ht1' 8 (.bool false)
  have hx2 : Ex (fun x => x = gd ∨ x = gt) w1 (w1.setCell ⟨gt, 8, none⟩ (.bool false)) := (hx1.mono (fun x hx => .inl hx)).setCell (p := ⟨gt, 8, none⟩) (.inr rfl) _
  have d2 : DcAt (w1.setCell ⟨gt, 8, none⟩ (.bool false)) gd gs 0 (.slice (some ⟨gk, 0, none⟩) 0 10) (.slice (some ⟨gl, 0, none⟩) 0 10) := blk_far (p := ⟨gt, 8, none⟩) hd1' (by show gd ≠ gt; exact td.symm) _
  have kb2 := hx2.keep hk1 (fun h => h.elim (fun e => dk e.symm) (fun e => tk e.symm))
  have lb2 := hx2.keep hl1 (fun h => h.elim (fun e => dl e.symm) (fun e => tl e.symm))
  have sl2 := h1.frame HH.out (hx2.mono (fun x hx hd => hx.elim (fun e => nd (e ▸ hd)) (fun e => nt (e ▸ hd))))
  have hxa : Ex (deO O gz gs gd gk gl gt) w (w1.setCell ⟨gt, 8, none⟩ (.bool false)) := ((hx0.mono (fun x hx => .inr (.inr (.inr (.inr hx))))).trans (h2.mono (fun x hx => .inl hx))).trans (hx2.mono (fun x hx => hx.elim (fun h => .inr (.inr (.inl h))) (fun h => .inr (.inl h))))
  have HV := Kp.mk (valMap_calls T pv fr bs ve vu vo vn O D S HH.out gz gs HP.out.1 HP.out.2.1 HP.out.2.2 gd gk gl gt 0 0 0 ck cl' _ (k + 1) _ b.toNat x r HA.out.1.1 HA.out.1.2 ⟨nd, nk, nl, nt⟩ ⟨td, tl.symm, dk.symm, dl.symm, kl.symm, tk, trivial⟩ sl2 d2 kb2 hks (by decide) lb2 hls (by decide) ht2 (by simpa using hts) HA.out.2)
  have HE := Kp.mk (And.intro d2 (And.intro kb2 (And.intro lb2 (And.intro hxa (And.intro hks (And.intro hkv (And.intro hls (And.intro hlv hts))))))))
  clear h1 h2 hd0 hk0 ht0 hl0 hx0 hd1 hk1 hl1 ht1 hx1 hd1' ht1' ht2 hx2 d2 kb2 lb2 sl2 hxa hnO nd nk nl nt td tk tl dk dl kl HR HB c7 hks hkv hls hlv hts
  go_wp2_with fail
  refine HV.out.mono ?_
  rintro e w3 ⟨rfl, h1, h3, hk3, hl3, h4, h5⟩
  have HK := Kp.mk (And.intro h1 (And.intro h3 (And.intro hk3 (And.intro hl3 (And.intro h4 h5)))))
  clear h1 h3 hk3 hl3 h4 h5
  clear HV
  go_wp2_with fail
  go_ret2
  obtain ⟨d2, kb2, lb2, hxa, hks, hkv, hls, hlv, hts⟩ := HE.out
  obtain ⟨nd, nk, nl, nt, td, tk, tl, dk, dl, kl⟩ := HN.out
  have hnO : ∀ x, ¬ slD D gz gs x → ¬ slO O gz gs x := fun x hx h => hx (slO_D HH.out h)
  obtain ⟨h1, h3, hk3, hl3, h4, h5⟩ := HK.out
  obtain ⟨k', hk', hsl⟩ := h1
  refine ⟨rfl, ⟨k', hk', hsl, h3, ⟨_, hk3, by simpa using hks, fun i x hi => ?_⟩, _, hl3, by simpa using hls, fun i x hi => ?_⟩, ⟨_, h4, tok_two (by simpa using hts) 1 (by decide) (by decide) _ _⟩, hxa.trans (h5.mono (fun x hx => hx))⟩
  · rw [Array.getElem?_setIfInBounds]
    by_cases hi0 : 0 = i
    · subst hi0
      rw [if_pos rfl, if_pos (by omega)]
      simp at hi
      rw [← hi]
    · rw [if_neg hi0]
      refine hkv i x ?_
      rcases i with _ | _ | i <;> first | exact hi | omega | (simp at hi hi0 ⊢; done) | (simp at hi ⊢; exact hi)
  · rw [Array.getElem?_setIfInBounds]
    by_cases hi0 : 0 = i
    · subst hi0
      rw [if_pos rfl, if_pos (by omega)]
      simp at hi
      rw [← hi]
    · rw [if_neg hi0]
      refine hlv i x ?_
      rcases i with _ | _ | i <;> first | exact hi | omega | (simp at hi hi0 ⊢; done) | (simp at hi ⊢; exact hi)

set_option maxHeartbeats 8000000 in
set_option maxRecDepth 100000 in
/-- An element of an array: a byte string with a tag. -/
theorem elIn_calls (T : TypeId) (pv : Value) (fr : FuncId) (bs : List UInt8) (ve vu vo vn : Value) (O D : Nat → Prop) (S : Nat → World → Prop) (H : Src T pv fr bs ve vu vo vn O D S) (gz gs : Nat) (hz : ¬ D gz) (hs : ¬ D gs) (hzs : gz ≠ gs) (gd gk gl gt n j k : Nat) (w : World) (tcs : Array Value) (b : UInt8) (x : Nat) (b' : UInt8) (s r1 r : List UInt8) (hN : DecN D gz gs gd gk gl gt) (hS : DecS T pv S gz gs gd gk gl 4 [0, 5] [n, j + 1] k w) (ht : w.heap[gt]? = some (.cells tcs 192 (0, 0))) (hts : tcs.size = 10) (hx : bs[k]? = some b) (hb : 192 ≤ b.toNat ∧ b.toNat < 224) (hv : cbArg (b.toNat % 32) (bs.drop (k + 1)) = some (x, b' :: r1)) (hv' : cbByt b' r1 = some (.byt s, r)) (hn : j + 1 ≤ 9223372036854775807) :
    Calls Tryz.prog 127 #[.pointer (some ⟨gd, 0, none⟩), .pointer (some ⟨gt, 0, none⟩)] w fun e w' => e = .returned (.tuple #[.bool false, .nilIface]) ∧ (∃ k', r = bs.drop k' ∧ DecS T pv S gz gs gd gk gl 4 [0, 5] [n, j] k' w') ∧ (∃ gb cap, w.heap.size ≤ gb ∧ RdB w' (some ⟨gb, 0, none⟩) s.length cap s ∧ TokR w' gt 120 3 (.slice (some ⟨gb, 0, none⟩) s.length cap)) ∧ Ex (deO O gz gs gd gk gl gt) w w' := by
  obtain ⟨h1, h2, ⟨ck, h3, h3s, h3v⟩, cl, h5, h5s, h5v⟩ := hS
  have hm : ∀ W, (method 453 262 (.pointer (some ⟨gs, 0, none⟩)) "Readn1").run Tryz.prog W = .ok (256, .pointer (some ⟨gs, 0, none⟩)) W := fun _ => by kernel_rfl
  obtain ⟨m, r2, hbr, ha, hm3, rfl, rfl⟩ := cbByt_byt hv' rfl
  have c10 : w.cell? ⟨gd, 10, none⟩ = some (.slice (some ⟨gl, 0, none⟩) 2 10) := blk_cell h2 10
  have cl0 : w.cell? ⟨gl, 1, none⟩ = some (.int .i64 ((j + 1 : Nat) : Int)) := (blk_cell h5 1).trans (h5v 1 (j + 1) rfl)
  have fl0 := blk_frozen h5 1
  have qn : (((j + 1 : Nat) : Int) == 0) = false := beq_eq_false_iff_ne.2 (by omega)
  have hx0 : Ex (fun x => x = gl) w (w.setCell ⟨gl, 1, none⟩ (.int .i64 j)) := (Ex.refl (fun x => x = gl) w).setCell (p := ⟨gl, 1, none⟩) rfl _
  have hd0 : DcAt (w.setCell ⟨gl, 1, none⟩ (.int .i64 j)) gd gs 4 (.slice (some ⟨gk, 0, none⟩) 2 10) (.slice (some ⟨gl, 0, none⟩) 2 10) := hx0.keep h2 hN.dl
  have hk0 := hx0.keep h3 hN.kl
  have ht0 := hx0.keep ht hN.tl
  have hl0 : ∃ cl' : Array Value, (w.setCell ⟨gl, 1, none⟩ (.int .i64 j)).heap[gl]? = some (.cells cl' 3 (0, 0)) ∧ cl'.size = 10 ∧ ∀ (i x : Nat), ([n, j] : List Nat)[i]? = some x → cl'[i]? = some (.int .i64 x) := by
    refine ⟨_, blk_set h5 1 _, by simpa using h5s, fun i x hi => ?_⟩
    rw [Array.getElem?_setIfInBounds]
    by_cases hi0 : 1 = i
    · subst hi0
      rw [if_pos rfl, if_pos (by omega)]
      simp at hi
      rw [hi]
    · rw [if_neg hi0]
      refine h5v i x ?_
      rcases i with _ | _ | i <;> first | exact hi | omega | (simp at hi hi0 ⊢; done) | (simp at hi ⊢; exact hi)
  have hs0 := h1.frame H (hx0.mono (fun x hx hd => hN.nl (hx ▸ hd)))
  have c7 : (w.setCell ⟨gl, 1, none⟩ (.int .i64 j)).cell? ⟨gd, 7, none⟩ = some (.iface 262 (.pointer (some ⟨gs, 0, none⟩))) := blk_cell hd0 7
  have HR := Kp.mk (readn1_calls T pv fr bs ve vu vo vn O D S H gz gs hz hs hzs k (w.setCell ⟨gl, 1, none⟩ (.int .i64 j)) b hs0 hx)
  have HH := Kp.mk H
  have HP := Kp.mk (And.intro hz (And.intro hs hzs))
  have HN := Kp.mk hN
  have HB := Kp.mk (And.intro hd0 (And.intro hk0 (And.intro ht0 (And.intro hl0 (And.intro hx0 (And.intro h3s (And.intro h3v hts)))))))
  have HA := Kp.mk (And.intro hb (And.intro hv (And.intro hbr (And.intro ha hm3))))
  clear hb hv hbr ha hm3 hv'
  clear H hz hs hzs hN h1 h2 h3 h3s h3v h5 h5s h5v ht hts hx hx0 hd0 hk0 ht0 hl0 hs0
  go_enter Tryz.func127, Tryz.ntmps127
  go_wp2_with fail
  refine HR.out.mono ?_
  rintro e w1 ⟨rfl, h1, h2⟩
  obtain ⟨hd0, hk0, ht0, ⟨cl', hl0, hls, hlv⟩, hx0, hks, hkv, hts⟩ := HB.out
  obtain ⟨nd, nk, nl, nt, td, tk, tl, dk, dl, kl⟩ := HN.out
  have hnO : ∀ x, ¬ slD D gz gs x → ¬ slO O gz gs x := fun x hx h => hx (slO_D HH.out h)
  have hd1 : DcAt w1 gd gs 4 (.slice (some ⟨gk, 0, none⟩) 2 10) (.slice (some ⟨gl, 0, none⟩) 2 10) := h2.keep hd0 (hnO _ nd)
  have hk1 := h2.keep hk0 (hnO _ nk)
  have hl1 := h2.keep hl0 (hnO _ nl)
  have ht1 := h2.keep ht0 (hnO _ nt)
  have hx1 : Ex (fun x => x = gd) w1 w1 := Ex.refl _ w1
  have hd1' : DcAt w1 gd gs 4 (.slice (some ⟨gk, 0, none⟩) 2 10) (.slice (some ⟨gl, 0, none⟩) 2 10) := hd1
  have ht1' := hx1.keep ht1 td
  obtain ⟨v8, c8⟩ := blk_in ht1' 8 (by omega)
  have f8 := blk_frozen ht1' 8
  have ht2 := blk_set ht1' 8 (.bool false)
  have hx2 : Ex (fun x => x = gd ∨ x = gt) w1 (w1.setCell ⟨gt, 8, none⟩ (.bool false)) := (hx1.mono (fun x hx => .inl hx)).setCell (p := ⟨gt, 8, none⟩) (.inr rfl) _
  have d2 : DcAt (w1.setCell ⟨gt, 8, none⟩ (.bool false)) gd gs 4 (.slice (some ⟨gk, 0, none⟩) 2 10) (.slice (some ⟨gl, 0, none⟩) 2 10) := blk_far (p := ⟨gt, 8, none⟩) hd1' (by show gd ≠ gt; exact td.symm) _
  have kb2 := hx2.keep hk1 (fun h => h.elim (fun e => dk e.symm) (fun e => tk e.symm))
  have lb2 := hx2.keep hl1 (fun h => h.elim (fun e => dl e.symm) (fun e => tl e.symm))
  have sl2 := h1.frame HH.out (hx2.mono (fun x hx hd => hx.elim (fun e => nd (e ▸ hd)) (fun e => nt (e ▸ hd))))
  have hxa : Ex (deO O gz gs gd gk gl gt) w (w1.setCell ⟨gt, 8, none⟩ (.bool false)) := ((hx0.mono (fun x hx => .inr (.inr (.inr (.inr hx))))).trans (h2.mono (fun x hx => .inl hx))).trans (hx2.mono (fun x hx => hx.elim (fun h => .inr (.inr (.inl h))) (fun h => .inr (.inl h))))
  have HV := Kp.mk (valTag_calls T pv fr bs ve vu vo vn O D S HH.out gz gs HP.out.1 HP.out.2.1 HP.out.2.2 gd 4 _ _ nd (k + 1) _ b.toNat x m b' r1 r2 HA.out.1.1 HA.out.1.2 HA.out.2.2.1.1 HA.out.2.2.1.2 sl2 d2 gt _ nt td ht2 (by simpa using hts) (by rw [Array.getElem?_setIfInBounds_self_of_lt (by omega)]) HA.out.2.1 HA.out.2.2.2.1 HA.out.2.2.2.2.1 HA.out.2.2.2.2.2)
  have HE := Kp.mk (And.intro d2 (And.intro kb2 (And.intro lb2 (And.intro hxa (And.intro hks (And.intro hkv (And.intro hls (And.intro hlv hts))))))))
  clear h1 h2 hd0 hk0 ht0 hl0 hx0 hd1 hk1 hl1 ht1 hx1 hd1' ht1' ht2 hx2 d2 kb2 lb2 sl2 hxa hnO nd nk nl nt td tk tl dk dl kl HR HB c7 hks hkv hls hlv hts
  go_wp2_with fail
  refine HV.out.mono ?_
  rintro e w3 ⟨⟨dn, rfl⟩, h1, ⟨gb, cap, hgb, hrd, h4⟩, h5⟩
  have HK := Kp.mk (And.intro h1 (And.intro hgb (And.intro hrd (And.intro h4 h5))))
  clear h1 h4 h5 hgb hrd
  clear HV
  go_wp2_with fail
  go_ret2
  obtain ⟨d2, kb2, lb2, hxa, hks, hkv, hls, hlv, hts⟩ := HE.out
  obtain ⟨nd, nk, nl, nt, td, tk, tl, dk, dl, kl⟩ := HN.out
  have hnO : ∀ x, ¬ slD D gz gs x → ¬ slO O gz gs x := fun x hx h => hx (slO_D HH.out h)
  obtain ⟨h1, hgb, hrd, h4, h5⟩ := HK.out
  obtain ⟨k', hk', hsl⟩ := h1
  have HLE : Kp ((r2.take m).length = m) := ⟨by rw [List.length_take]; have := HA.out.2.2.2.2.2; omega⟩
  have hd3 := h5.keep d2 (fun h => h.elim (hnO _ nd) (fun e => td e.symm))
  have hk3 := h5.keep kb2 (fun h => h.elim (hnO _ nk) (fun e => tk e.symm))
  have hl3 := h5.keep lb2 (fun h => h.elim (hnO _ nl) (fun e => tl e.symm))
  exact ⟨rfl, ⟨k', hk', hsl, hd3, ⟨ck, hk3, hks, hkv⟩, cl', hl3, hls, hlv⟩, ⟨gb, cap, Nat.le_trans hxa.size hgb, by rw [HLE.out]; exact hrd, by rw [HLE.out]; exact ⟨_, h4, tok_two (by simpa using hts) 3 (by decide) (by decide) _ _⟩⟩, hxa.trans (h5.mono (fun x hx => hx.elim .inl (fun e => .inr (.inl e))))⟩

end Go.Proofs.YtkcpgcaccgahaaaGreatDoor
namespace Go.Proofs.YtkcpgcaccgahaaaGreatDoor
open Go.RowKit

theorem tok_one {tcs : Array Value} (hs : tcs.size = 10) (a : Value) : (tcs.setIfInBounds 0 a)[0]? = some a := by
  rw [Array.getElem?_setIfInBounds, if_pos rfl, if_pos (by omega)]

set_option maxHeartbeats 8000000 in
set_option maxRecDepth 100000 in
/-- The end of a map. -/
theorem keyEnd_calls (T : TypeId) (pv : Value) (fr : FuncId) (bs : List UInt8) (ve vu vo vn : Value) (O D : Nat → Prop) (S : Nat → World → Prop) (H : Src T pv fr bs ve vu vo vn O D S) (gz gs : Nat) (gd gk gl gt k : Nat) (w : World) (tcs : Array Value) (hN : DecN D gz gs gd gk gl gt) (hS : DecS T pv S gz gs gd gk gl 5 [0] [0] k w) (ht : w.heap[gt]? = some (.cells tcs 192 (0, 0))) (hts : tcs.size = 10) :
    Calls Tryz.prog 128 #[.pointer (some ⟨gd, 0, none⟩), .pointer (some ⟨gt, 0, none⟩)] w fun e w' => e = .returned (.tuple #[.bool true, .nilIface]) ∧ DecS T pv S gz gs gd gk gl 5 [0] [] k w' ∧ TokR w' gt 125 0 (.int .u8 125) ∧ Ex (deO O gz gs gd gk gl gt) w w' := by
  obtain ⟨h1, h2, ⟨ck, h3, h3s, h3v⟩, cl, h5, h5s, h5v⟩ := hS
  have c10 : w.cell? ⟨gd, 10, none⟩ = some (.slice (some ⟨gl, 0, none⟩) 1 10) := blk_cell h2 10
  have f10 := blk_frozen h2 10
  have cl0 : w.cell? ⟨gl, 0, none⟩ = some (.int .i64 0) := (blk_cell h5 0).trans (h5v 0 0 rfl)
  have hcut : ∀ W : World, (Instr.slice 109 (.slice (some ⟨gl, 0, none⟩) 1 10) (some (.int .i64 0)) (some (.int .i64 0)) none).run Tryz.prog W = .ok (.slice (some ⟨gl, 0, none⟩) 0 10) W := fun _ => by kernel_rfl
  have hx0 : Ex (fun x => x = gd) w (w.setCell ⟨gd, 10, none⟩ (.slice (some ⟨gl, 0, none⟩) 0 10)) := (Ex.refl (fun x => x = gd) w).setCell (p := ⟨gd, 10, none⟩) rfl _
  have ht0 := hx0.keep ht hN.td
  obtain ⟨v0, c0⟩ := blk_in ht0 0 (by omega)
  have f0 := blk_frozen ht0 0
  have hx : Ex (fun x => x = gd ∨ x = gt) w ((w.setCell ⟨gd, 10, none⟩ (.slice (some ⟨gl, 0, none⟩) 0 10)).setCell ⟨gt, 0, none⟩ (.int .u8 125)) := (hx0.mono (fun x hx => .inl hx)).setCell (p := ⟨gt, 0, none⟩) (.inr rfl) _
  have hd2 : DcAt ((w.setCell ⟨gd, 10, none⟩ (.slice (some ⟨gl, 0, none⟩) 0 10)).setCell ⟨gt, 0, none⟩ (.int .u8 125)) gd gs 5 (.slice (some ⟨gk, 0, none⟩) 1 10) (.slice (some ⟨gl, 0, none⟩) 0 10) := blk_far (p := ⟨gt, 0, none⟩) (blk_set h2 10 _) (by show gd ≠ gt; exact hN.td.symm) _
  have HE : Kp (DecS T pv S gz gs gd gk gl 5 [0] [] k ((w.setCell ⟨gd, 10, none⟩ (.slice (some ⟨gl, 0, none⟩) 0 10)).setCell ⟨gt, 0, none⟩ (.int .u8 125))) := ⟨⟨h1.frame H (hx.mono (fun x hx hd => hx.elim (fun e => hN.nd (e ▸ hd)) (fun e => hN.nt (e ▸ hd)))), hd2, ⟨ck, hx.keep h3 (fun h => h.elim (fun e => hN.dk e.symm) (fun e => hN.tk e.symm)), h3s, h3v⟩, cl, hx.keep h5 (fun h => h.elim (fun e => hN.dl e.symm) (fun e => hN.tl e.symm)), h5s, fun a x ha => h5v a x (by rcases a with _ | _ | a <;> first | exact ha | (simp at ha; done) | (simp at ha ⊢; exact ha))⟩⟩
  have HT := Kp.mk (And.intro (blk_set ht0 0 (.int .u8 125)) (And.intro (hx.mono (fun x hx => hx.elim (fun h => .inr (.inr (.inl h))) (fun h => .inr (.inl h))) : Ex (deO O gz gs gd gk gl gt) w ((w.setCell ⟨gd, 10, none⟩ (.slice (some ⟨gl, 0, none⟩) 0 10)).setCell ⟨gt, 0, none⟩ (.int .u8 125))) hts))
  clear H hN h1 h2 h3 h3s h3v h5 h5s h5v ht hts hx0 ht0 hx hd2
  go_enter Tryz.func128, Tryz.ntmps128
  go_wp2_with fail
  go_ret2
  exact ⟨rfl, HE.out, ⟨_, HT.out.1, by simpa using HT.out.2.2, tok_one HT.out.2.2 _, tok_one HT.out.2.2 _⟩, HT.out.2.1⟩

set_option maxHeartbeats 8000000 in
set_option maxRecDepth 100000 in
/-- The end of an array. -/
theorem elEnd_calls (T : TypeId) (pv : Value) (fr : FuncId) (bs : List UInt8) (ve vu vo vn : Value) (O D : Nat → Prop) (S : Nat → World → Prop) (H : Src T pv fr bs ve vu vo vn O D S) (gz gs : Nat) (gd gk gl gt n k : Nat) (w : World) (tcs : Array Value) (hN : DecN D gz gs gd gk gl gt) (hS : DecS T pv S gz gs gd gk gl 4 [0, 5] [n, 0] k w) (ht : w.heap[gt]? = some (.cells tcs 192 (0, 0))) (hts : tcs.size = 10) :
    Calls Tryz.prog 127 #[.pointer (some ⟨gd, 0, none⟩), .pointer (some ⟨gt, 0, none⟩)] w fun e w' => e = .returned (.tuple #[.bool true, .nilIface]) ∧ DecS T pv S gz gs gd gk gl 4 [0, 5] [n] k w' ∧ TokR w' gt 93 0 (.int .u8 93) ∧ Ex (deO O gz gs gd gk gl gt) w w' := by
  obtain ⟨h1, h2, ⟨ck, h3, h3s, h3v⟩, cl, h5, h5s, h5v⟩ := hS
  have c10 : w.cell? ⟨gd, 10, none⟩ = some (.slice (some ⟨gl, 0, none⟩) 2 10) := blk_cell h2 10
  have f10 := blk_frozen h2 10
  have cl0 : w.cell? ⟨gl, 1, none⟩ = some (.int .i64 0) := (blk_cell h5 1).trans (h5v 1 0 rfl)
  have hcut : ∀ W : World, (Instr.slice 109 (.slice (some ⟨gl, 0, none⟩) 2 10) (some (.int .i64 0)) (some (.int .i64 1)) none).run Tryz.prog W = .ok (.slice (some ⟨gl, 0, none⟩) 1 10) W := fun _ => by kernel_rfl
  have hx0 : Ex (fun x => x = gd) w (w.setCell ⟨gd, 10, none⟩ (.slice (some ⟨gl, 0, none⟩) 1 10)) := (Ex.refl (fun x => x = gd) w).setCell (p := ⟨gd, 10, none⟩) rfl _
  have ht0 := hx0.keep ht hN.td
  obtain ⟨v0, c0⟩ := blk_in ht0 0 (by omega)
  have f0 := blk_frozen ht0 0
  have hx : Ex (fun x => x = gd ∨ x = gt) w ((w.setCell ⟨gd, 10, none⟩ (.slice (some ⟨gl, 0, none⟩) 1 10)).setCell ⟨gt, 0, none⟩ (.int .u8 93)) := (hx0.mono (fun x hx => .inl hx)).setCell (p := ⟨gt, 0, none⟩) (.inr rfl) _
  have hd2 : DcAt ((w.setCell ⟨gd, 10, none⟩ (.slice (some ⟨gl, 0, none⟩) 1 10)).setCell ⟨gt, 0, none⟩ (.int .u8 93)) gd gs 4 (.slice (some ⟨gk, 0, none⟩) 2 10) (.slice (some ⟨gl, 0, none⟩) 1 10) := blk_far (p := ⟨gt, 0, none⟩) (blk_set h2 10 _) (by show gd ≠ gt; exact hN.td.symm) _
  have HE : Kp (DecS T pv S gz gs gd gk gl 4 [0, 5] [n] k ((w.setCell ⟨gd, 10, none⟩ (.slice (some ⟨gl, 0, none⟩) 1 10)).setCell ⟨gt, 0, none⟩ (.int .u8 93))) := ⟨⟨h1.frame H (hx.mono (fun x hx hd => hx.elim (fun e => hN.nd (e ▸ hd)) (fun e => hN.nt (e ▸ hd)))), hd2, ⟨ck, hx.keep h3 (fun h => h.elim (fun e => hN.dk e.symm) (fun e => hN.tk e.symm)), h3s, h3v⟩, cl, hx.keep h5 (fun h => h.elim (fun e => hN.dl e.symm) (fun e => hN.tl e.symm)), h5s, fun a x ha => h5v a x (by rcases a with _ | _ | a <;> first | exact ha | (simp at ha; done) | (simp at ha ⊢; exact ha))⟩⟩
  have HT := Kp.mk (And.intro (blk_set ht0 0 (.int .u8 93)) (And.intro (hx.mono (fun x hx => hx.elim (fun h => .inr (.inr (.inl h))) (fun h => .inr (.inl h))) : Ex (deO O gz gs gd gk gl gt) w ((w.setCell ⟨gd, 10, none⟩ (.slice (some ⟨gl, 0, none⟩) 1 10)).setCell ⟨gt, 0, none⟩ (.int .u8 93))) hts))
  clear H hN h1 h2 h3 h3s h3v h5 h5s h5v ht hts hx0 ht0 hx hd2
  go_enter Tryz.func127, Tryz.ntmps127
  go_wp2_with fail
  go_ret2
  exact ⟨rfl, HE.out, ⟨_, HT.out.1, by simpa using HT.out.2.2, tok_one HT.out.2.2 _, tok_one HT.out.2.2 _⟩, HT.out.2.1⟩

set_option maxHeartbeats 8000000 in
set_option maxRecDepth 100000 in
/-- Step in phase 0, which does not end it. -/
theorem step0_calls (gd gs gt : Nat) (A B : Value) (w : World) (Q : World → Prop) (hd : DcAt w gd gs 0 A B) (h : Calls Tryz.prog 123 #[.pointer (some ⟨gd, 0, none⟩), .pointer (some ⟨gt, 0, none⟩)] w fun e w' => e = .returned (.tuple #[.bool false, .nilIface]) ∧ Q w') :
    Calls Tryz.prog 102 #[.pointer (some ⟨gd, 0, none⟩), .pointer (some ⟨gt, 0, none⟩)] w fun e w' => e = .returned (.tuple #[.bool false, .nilIface]) ∧ Q w' := by
  have c9 : w.cell? ⟨gd, 9, none⟩ = some (.int .u8 0) := blk_cell hd 9
  have HC := Kp.mk h
  clear h hd
  go_enter Tryz.func102, Tryz.ntmps102
  go_wp2_with fail
  refine HC.out.mono ?_
  rintro e w1 ⟨rfl, h1⟩
  have HK := Kp.mk h1
  clear h1 HC c9
  go_wp2_with fail
  go_ret2
  exact ⟨rfl, HK.out⟩

set_option maxHeartbeats 8000000 in
set_option maxRecDepth 100000 in
/-- Step in phase 4, which does not end it. -/
theorem step4_calls (gd gs gt : Nat) (A B : Value) (w : World) (Q : World → Prop) (hd : DcAt w gd gs 4 A B) (h : Calls Tryz.prog 127 #[.pointer (some ⟨gd, 0, none⟩), .pointer (some ⟨gt, 0, none⟩)] w fun e w' => e = .returned (.tuple #[.bool false, .nilIface]) ∧ Q w') :
    Calls Tryz.prog 102 #[.pointer (some ⟨gd, 0, none⟩), .pointer (some ⟨gt, 0, none⟩)] w fun e w' => e = .returned (.tuple #[.bool false, .nilIface]) ∧ Q w' := by
  have c9 : w.cell? ⟨gd, 9, none⟩ = some (.int .u8 4) := blk_cell hd 9
  have HC := Kp.mk h
  clear h hd
  go_enter Tryz.func102, Tryz.ntmps102
  go_wp2_with fail
  refine HC.out.mono ?_
  rintro e w1 ⟨rfl, h1⟩
  have HK := Kp.mk h1
  clear h1 HC c9
  go_wp2_with fail
  go_ret2
  exact ⟨rfl, HK.out⟩

set_option maxHeartbeats 8000000 in
set_option maxRecDepth 100000 in
/-- Step in phase 5, which does not end it. -/
theorem step5_calls (gd gs gt : Nat) (A B : Value) (w : World) (Q : World → Prop) (hd : DcAt w gd gs 5 A B) (h : Calls Tryz.prog 128 #[.pointer (some ⟨gd, 0, none⟩), .pointer (some ⟨gt, 0, none⟩)] w fun e w' => e = .returned (.tuple #[.bool false, .nilIface]) ∧ Q w') :
    Calls Tryz.prog 102 #[.pointer (some ⟨gd, 0, none⟩), .pointer (some ⟨gt, 0, none⟩)] w fun e w' => e = .returned (.tuple #[.bool false, .nilIface]) ∧ Q w' := by
  have c9 : w.cell? ⟨gd, 9, none⟩ = some (.int .u8 5) := blk_cell hd 9
  have HC := Kp.mk h
  clear h hd
  go_enter Tryz.func102, Tryz.ntmps102
  go_wp2_with fail
  refine HC.out.mono ?_
  rintro e w1 ⟨rfl, h1⟩
  have HK := Kp.mk h1
  clear h1 HC c9
  go_wp2_with fail
  go_ret2
  exact ⟨rfl, HK.out⟩

set_option maxHeartbeats 8000000 in
set_option maxRecDepth 100000 in
/-- Step in phase 6, which does not end it. -/
theorem step6_calls (gd gs gt : Nat) (A B : Value) (w : World) (Q : World → Prop) (hd : DcAt w gd gs 6 A B) (h : Calls Tryz.prog 129 #[.pointer (some ⟨gd, 0, none⟩), .pointer (some ⟨gt, 0, none⟩)] w fun e w' => e = .returned (.tuple #[.bool false, .nilIface]) ∧ Q w') :
    Calls Tryz.prog 102 #[.pointer (some ⟨gd, 0, none⟩), .pointer (some ⟨gt, 0, none⟩)] w fun e w' => e = .returned (.tuple #[.bool false, .nilIface]) ∧ Q w' := by
  have c9 : w.cell? ⟨gd, 9, none⟩ = some (.int .u8 6) := blk_cell hd 9
  have HC := Kp.mk h
  clear h hd
  go_enter Tryz.func102, Tryz.ntmps102
  go_wp2_with fail
  refine HC.out.mono ?_
  rintro e w1 ⟨rfl, h1⟩
  have HK := Kp.mk h1
  clear h1 HC c9
  go_wp2_with fail
  go_ret2
  exact ⟨rfl, HK.out⟩

set_option maxHeartbeats 8000000 in
set_option maxRecDepth 100000 in
/-- Step at the end of the map: that's all. -/
theorem stepEnd_calls (T : TypeId) (pv : Value) (fr : FuncId) (bs : List UInt8) (ve vu vo vn : Value) (O D : Nat → Prop) (S : Nat → World → Prop) (H : Src T pv fr bs ve vu vo vn O D S) (gz gs : Nat) (gd gk gl gt k : Nat) (w : World) (tcs : Array Value) (hN : DecN D gz gs gd gk gl gt) (hS : DecS T pv S gz gs gd gk gl 5 [0] [0] k w) (ht : w.heap[gt]? = some (.cells tcs 192 (0, 0))) (hts : tcs.size = 10) :
    Calls Tryz.prog 102 #[.pointer (some ⟨gd, 0, none⟩), .pointer (some ⟨gt, 0, none⟩)] w fun e w' => e = .returned (.tuple #[.bool true, .nilIface]) ∧ DecS T pv S gz gs gd gk gl 5 [0] [] k w' ∧ TokR w' gt 125 0 (.int .u8 125) ∧ Ex (deO O gz gs gd gk gl gt) w w' := by
  have c9 : w.cell? ⟨gd, 9, none⟩ = some (.int .u8 5) := blk_cell hS.d 9
  have HC := Kp.mk (keyEnd_calls T pv fr bs ve vu vo vn O D S H gz gs gd gk gl gt k w tcs hN hS ht hts)
  clear hN hS ht hts H
  go_enter Tryz.func102, Tryz.ntmps102
  go_wp2_with fail
  refine HC.out.mono ?_
  rintro e w1 ⟨rfl, h1, h2, h3⟩
  have c8 : w1.cell? ⟨gd, 8, none⟩ = some (.slice (some ⟨gk, 0, none⟩) 1 10) := blk_cell h1.d 8
  have HK := Kp.mk (And.intro h1 (And.intro h2 h3))
  clear h1 h2 h3 HC c9
  go_wp2_with fail
  go_ret2
  exact ⟨rfl, HK.out⟩

set_option maxHeartbeats 8000000 in
set_option maxRecDepth 100000 in
/-- Step at the end of the array: the map's keys are up again. -/
theorem stepArr_calls (T : TypeId) (pv : Value) (fr : FuncId) (bs : List UInt8) (ve vu vo vn : Value) (O D : Nat → Prop) (S : Nat → World → Prop) (H : Src T pv fr bs ve vu vo vn O D S) (gz gs : Nat) (gd gk gl gt n k : Nat) (w : World) (tcs : Array Value) (hN : DecN D gz gs gd gk gl gt) (hS : DecS T pv S gz gs gd gk gl 4 [0, 5] [n, 0] k w) (ht : w.heap[gt]? = some (.cells tcs 192 (0, 0))) (hts : tcs.size = 10) :
    Calls Tryz.prog 102 #[.pointer (some ⟨gd, 0, none⟩), .pointer (some ⟨gt, 0, none⟩)] w fun e w' => e = .returned (.tuple #[.bool false, .nilIface]) ∧ DecS T pv S gz gs gd gk gl 5 [0] [n] k w' ∧ TokR w' gt 93 0 (.int .u8 93) ∧ Ex (deO O gz gs gd gk gl gt) w w' := by
  have c9 : w.cell? ⟨gd, 9, none⟩ = some (.int .u8 4) := blk_cell hS.d 9
  have HC := Kp.mk (elEnd_calls T pv fr bs ve vu vo vn O D S H gz gs gd gk gl gt n k w tcs hN hS ht hts)
  have HN := Kp.mk hN
  have HH := Kp.mk H
  clear hN hS ht hts H
  go_enter Tryz.func102, Tryz.ntmps102
  go_wp2_with fail
  refine HC.out.mono ?_
  rintro e w1 ⟨rfl, h1, h2, h3⟩
  obtain ⟨s1, s2, ⟨ck, s3, s3s, s3v⟩, s4⟩ := h1
  have c8 : w1.cell? ⟨gd, 8, none⟩ = some (.slice (some ⟨gk, 0, none⟩) 2 10) := blk_cell s2 8
  have c9' : w1.cell? ⟨gd, 9, none⟩ = some (.int .u8 4) := blk_cell s2 9
  have f9 := blk_frozen s2 9
  have ck1 : w1.cell? ⟨gk, 1, none⟩ = some (.int .u8 5) := (blk_cell s3 1).trans (s3v 1 5 rfl)
  have hcut : ∀ W : World, (Instr.slice 230 (.slice (some ⟨gk, 0, none⟩) 2 10) (some (.int .i64 0)) (some (.int .i64 1)) none).run Tryz.prog W = .ok (.slice (some ⟨gk, 0, none⟩) 1 10) W := fun _ => by kernel_rfl
  have hset := blk_set s2 9 (.int .u8 5)
  have c8' : (w1.setCell ⟨gd, 9, none⟩ (.int .u8 5)).cell? ⟨gd, 8, none⟩ = some (.slice (some ⟨gk, 0, none⟩) 2 10) := blk_cell hset 8
  have f8' := blk_frozen hset 8
  have hx : Ex (fun x => x = gd) w1 ((w1.setCell ⟨gd, 9, none⟩ (.int .u8 5)).setCell ⟨gd, 8, none⟩ (.slice (some ⟨gk, 0, none⟩) 1 10)) := ((Ex.refl (fun x => x = gd) w1).setCell (p := ⟨gd, 9, none⟩) rfl _).setCell (p := ⟨gd, 8, none⟩) rfl _
  have HE : Kp (DecS T pv S gz gs gd gk gl 5 [0] [n] k ((w1.setCell ⟨gd, 9, none⟩ (.int .u8 5)).setCell ⟨gd, 8, none⟩ (.slice (some ⟨gk, 0, none⟩) 1 10))) := by
    obtain ⟨cl, s5, s5v⟩ := s4
    exact ⟨⟨s1.frame HH.out (hx.mono (fun x hx hd => HN.out.nd (hx ▸ hd))), blk_set hset 8 _, ⟨ck, hx.keep s3 (fun e => HN.out.dk e.symm), s3s, fun a x ha => s3v a x (by rcases a with _ | _ | a <;> first | exact ha | (simp at ha; done) | (simp at ha ⊢; exact ha))⟩, cl, hx.keep s5 (fun e => HN.out.dl e.symm), s5v⟩⟩
  have HT : Kp (TokR ((w1.setCell ⟨gd, 9, none⟩ (.int .u8 5)).setCell ⟨gd, 8, none⟩ (.slice (some ⟨gk, 0, none⟩) 1 10)) gt 93 0 (.int .u8 93)) := by
    obtain ⟨tcs', t1, t2⟩ := h2
    exact ⟨⟨tcs', hx.keep t1 HN.out.td, t2⟩⟩
  have HX := Kp.mk (h3.trans (hx.mono (fun x hx => .inr (.inr (.inl hx)))))
  clear s1 s2 s3 s3s s3v s4 h2 h3 hset hx HC c9
  go_wp2_with fail
  go_ret2
  exact ⟨rfl, HE.out, HT.out, HX.out⟩

end Go.Proofs.YtkcpgcaccgahaaaGreatDoor
