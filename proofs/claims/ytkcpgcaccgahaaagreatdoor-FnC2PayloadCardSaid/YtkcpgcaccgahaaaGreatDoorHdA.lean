/- Some texts in one: RdHd, RdVer. -/
import Derived.Test.YtkcpgcaccgahaaaGreatDoorZzHead
import Derived.Test.YtkcpgcaccgahaaaGreatDoorLdG
import Derived.Test.YtkcpgcaccgahaaaGreatDoorOptApZ
namespace Go.Proofs.YtkcpgcaccgahaaaGreatDoor
open Go.RowKit

set_option maxHeartbeats 8000000 in
set_option maxRecDepth 100000 in
/-- carv1.ReadHeader. -/
theorem rdHd_calls (T : TypeId) (pv : Value) (TB : TypeId) (pB : Value) (fr fb : FuncId) (bs : List UInt8) (ve vu vo vn : Value) (O D O' : Nat → Prop) (S S' : Nat → World → Prop) (H : Src T pv fr bs ve vu vo vn O D S) (most : Nat) (w : World) (hT : ToByt T pv TB pB fb bs ve vu vo vn O' S S' w)
    (hl : ∀ k w', S k w' → ∃ v, w'.cell? ⟨1, 0, none⟩ = some v ∧ NotEof v w') (hO : ∀ x, O' x → O x ∨ w.heap.size ≤ x) (hm : most ≤ 33554432) (hce : ∀ k w, S k w → CdErrs w)
    (d : List UInt8) (N : Nat) (hrd : longRead bs false most = .read d N) (hdl : d.length ≤ 33554432) (L : List (List UInt8)) (v : Nat) (rF : List UInt8) (hd : decHead d = some ((L, v), rF)) :
    Calls Tryz.prog 55 #[.iface T pv, .int .u64 most] w fun e w' => ∃ gh A cap, e = .returned (.tuple #[.pointer (some ⟨gh, 0, none⟩), .nilIface]) ∧ w.heap.size ≤ gh ∧ OwnR w.heap.size w' A cap L ∧ w'.heap[gh]? = some (.cells #[.slice A L.length cap, .int .u64 v] 133 (0, 0)) ∧ S N w' ∧ Ex O w w' := by
  have HC := Kp.mk (ldReadG_calls T pv TB pB fr fb bs ve vu vo vn O D O' S S' H false most w hT hl hO hm)
  rw [hrd] at HC
  have HH := Kp.mk (And.intro H hce)
  have HX := Kp.mk (And.intro hdl hd)
  clear H hT hl hO hm hce hrd hdl hd
  go_enter Tryz.func55, Tryz.ntmps55
  go_wp2_with fail
  refine HC.out.mono ?_
  rintro e w1 ⟨_, hx1, gd, hg1, hg2, rfl, hrb, hS1⟩
  obtain ⟨gh, hgh⟩ : ∃ gh, gh = w1.heap.size := ⟨_, rfl⟩
  have hal := bel_alloc (Below.refl w1.heap.size w1) (.cells #[.slice none 0 0, .int .u64 0] 133)
  have hn := blk_new (w := w1) (o := .cells #[.slice none 0 0, .int .u64 0] 133) (Below.refl _ _)
  obtain ⟨w2, hw2⟩ : ∃ w2, w2 = w1.alloc (.cells #[.slice none 0 0, .int .u64 0] 133) := ⟨_, rfl⟩
  rw [← hgh] at hn
  rw [← hw2] at hal hn
  have HC2 := Kp.mk (zzHead_calls gd d.length d.length gh d ve vu vo vn w1 w2 hal (HH.out.1.errs _ _ hS1) (HH.out.2 _ _ hS1) (hrb.below hal) (Nat.lt_of_lt_of_le hg2 hal.size) (by have := HX.out.1; omega) hn (by omega) (by omega) L v rF HX.out.2)
  have HW2 := Kp.mk (And.intro hw2 hgh)
  have HE := Kp.mk (And.intro hx1 (And.intro hal hS1))
  clear hx1 hg1 hg2 hrb hS1 hgh hal hn hw2 HC
  go_wp2_with fail
  rw [← HW2.out.2, ← HW2.out.1]
  refine HC2.out.mono ?_
  rintro e w3 ⟨rfl, h1, h2⟩
  have HK := Kp.mk (And.intro h1 h2)
  clear h1 h2 HC2
  go_wp2_with fail
  go_ret2
  obtain ⟨⟨A, cap, hown, hh⟩, hx3⟩ := HK.out
  obtain ⟨hx1, hal, hS1⟩ := HE.out
  have hgh := HW2.out.2
  have hb3 : Below w1.heap.size w1 w3 := hal.trans (hx3.toBelow (fun j hj e => by omega) hal.size)
  exact ⟨gh, A, cap, rfl, by rw [hgh]; exact hx1.size, hown.mono (Nat.le_trans hx1.size hal.size), hh, HH.out.1.below hS1 hb3, hx1.trans (Ex.of_below hb3)⟩

end Go.Proofs.YtkcpgcaccgahaaaGreatDoor
namespace Go.Proofs.YtkcpgcaccgahaaaGreatDoor
open Go.RowKit

set_option maxHeartbeats 8000000 in
set_option maxRecDepth 100000 in
/-- car.ReadVersion. -/
theorem rdVer_calls (T : TypeId) (pv : Value) (TB : TypeId) (pB : Value) (fr fb : FuncId) (bs : List UInt8) (ve vu vo vn : Value) (O D : Nat → Prop) (S S' : Nat → World → Prop) (H : Src T pv fr bs ve vu vo vn O D S) (hT : ∀ w, S 0 w → ToByt T pv TB pB fb bs ve vu vo vn O S S' w)
    (hl : ∀ k w', S k w' → ∃ v, w'.cell? ⟨1, 0, none⟩ = some v ∧ NotEof v w') (hce : ∀ k w, S k w → CdErrs w)
    (A : Option Addr) (n c : Nat) (E : List (Nat × Nat × Value)) (w : World) (hr : RdO w A n E) (hn : 8 ≤ n) (hn1 : n ≤ 100) (h11 : ∀ y ∈ E, y.1 ≠ 11) (hS : S 0 w)
    (d : List UInt8) (N : Nat) (hrd : longRead bs false 33554432 = .read d N) (hdl : d.length ≤ 33554432) (L : List (List UInt8)) (v : Nat) (rF : List UInt8) (hd : decHead d = some ((L, v), rF)) :
    Calls Tryz.prog 40 #[.iface T pv, .slice A n c] w fun e w' => e = .returned (.tuple #[.int .u64 v, .nilIface]) ∧ S N w' ∧ Ex O w w' := by
  have HC := Kp.mk (applyOptsZ_calls A n c E w hr hn hn1 h11)
  have HS := Kp.mk hS
  have HR := Kp.mk (fun (w1 : World) (h : S 0 w1) => rdHd_calls T pv TB pB fr fb bs ve vu vo vn O D O S S' H 33554432 w1 (hT w1 h) hl (fun x hx => .inl hx) (Nat.le_refl _) hce d N hrd hdl L v rF hd)
  have HH := Kp.mk H
  clear hT hl hce hr hn hn1 h11 hrd hdl hd hS H
  go_enter Tryz.func40, Tryz.ntmps40
  go_wp2_with fail
  refine HC.out.mono ?_
  rintro e w1 ⟨⟨⟨a0, a1, a2, a3, a4, a5, a6, a7, a8, a9, a10, a11, a12⟩, hmh, rfl⟩, hb1⟩
  replace hmh : a11 = 33554432 := hmh
  subst hmh
  simp only [Opt13.cells]
  have HB1 := Kp.mk hb1
  have HB2 := Kp.mk (fun o => bel_alloc (Below.refl w1.heap.size w1) o)
  have HC2 := Kp.mk (fun o => HR.out (w1.alloc o) (HH.out.below (HH.out.below HS.out hb1) (HB2.out o)))
  clear hb1 HC HR
  go_wp2_with fail
  refine (HC2.out _).mono ?_
  rintro e w2 ⟨gh, A2, cap, rfl, _, _, hh, hS2, hx2⟩
  have g1 := blk_cell hh 1
  have HE := Kp.mk (And.intro hS2 hx2)
  clear hh hS2 hx2 HC2
  go_wp2_with fail
  go_ret2
  exact ⟨rfl, HE.out.1, (Ex.of_below HB1.out).trans ((Ex.of_below (HB2.out _)).trans HE.out.2)⟩

end Go.Proofs.YtkcpgcaccgahaaaGreatDoor
