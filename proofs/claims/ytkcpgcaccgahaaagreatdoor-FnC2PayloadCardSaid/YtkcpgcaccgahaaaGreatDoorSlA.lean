/- Some texts in one: R2s, Slick. -/
import Derived.Test.YtkcpgcaccgahaaaGreatDoorSrcB
import Derived.Test.YtkcpgcaccgahaaaGreatDoorGrowB
import Derived.Lib.AppendZerosOnto
namespace Go.Proofs.YtkcpgcaccgahaaaGreatDoor
open Go.RowKit

def r2Cs (T : TypeId) (pv : Value) (l ls b : Nat) : Array Value := #[.iface T pv, .int .u8 l, .int .u8 ls, .int .u8 b]
/-- A readerToScanner in block gz, over a reader. -/
def R2At (w : World) (gz : Nat) (T : TypeId) (pv : Value) : Prop :=
  ∃ l ls b : Nat, ls ≠ 1 ∧ w.heap[gz]? = some (.cells (r2Cs T pv l ls b) 265 (0, 0))
theorem R2At.ex {P : Nat → Prop} {w w' : World} {gz : Nat} {T : TypeId} {pv : Value} (h : R2At w gz T pv) (he : Ex P w w') (hp : ¬ P gz) : R2At w' gz T pv := by
  obtain ⟨l, ls, b, h1, h2⟩ := h
  exact ⟨l, ls, b, h1, he.keep h2 hp⟩
theorem R2At.lt {w : World} {gz : Nat} {T : TypeId} {pv : Value} (h : R2At w gz T pv) : gz < w.heap.size := by
  obtain ⟨l, ls, b, h1, h2⟩ := h
  exact (Array.getElem?_eq_some_iff.1 h2).1
/-- The last byte that was read. -/
theorem put_last {w : World} {g o m j : Nat} {t : TypeId} {cs : Array Value} {xs : List UInt8} (h : w.heap[g]? = some (.cells (putLs cs o (Lib.byteCells (xs.take j))) t (0, 0))) (hs : o + m ≤ cs.size) (hj : j ≤ m) (h0 : 0 < j) (hl : j ≤ xs.length) : ∃ x : UInt8, xs[j - 1]? = some x ∧ w.cell? ⟨g, o + (j - 1), none⟩ = some (.int .u8 (x.toNat : Int)) := by
  have hlen : (xs.take j).length = j := by rw [List.length_take]; omega
  refine ⟨xs[j - 1]'(by omega), List.getElem?_eq_getElem (by omega), ?_⟩
  rw [blk_cell h, putLs_get _ _ _ _ (by rw [Lib.byteCells_length, hlen]; omega), Lib.byteCells_length, hlen, if_pos (by omega), show o + (j - 1) - o = j - 1 by omega]
  simp only [Lib.byteCells, List.getElem?_map]
  rw [List.getElem?_take_of_lt (by omega), List.getElem?_eq_getElem (by omega)]
  rfl

set_option maxHeartbeats 4000000 in
set_option maxRecDepth 100000 in
/-- (*readerToScanner).Read, into a block of another's. -/
theorem r2sRead_calls (T : TypeId) (pv : Value) (fr : FuncId) (bs : List UInt8) (ve vu vo vn : Value) (O D : Nat → Prop) (S : Nat → World → Prop) (H : Src T pv fr bs ve vu vo vn O D S) (gz k : Nat) (hz : ¬ D gz) (w : World) (gd : Nat) (t : TypeId) (cs : Array Value) (o m cm : Nat) (hS : S k w) (hR : R2At w gz T pv) (hD : ¬ D gd) (hne : gd ≠ gz) (hd : w.heap[gd]? = some (.cells cs t (0, 0))) (hos : o + m ≤ cs.size) (hmc : m ≤ cm) (hm0 : 0 < m) (hm : m ≤ 9223372036854775807) :
    Calls Tryz.prog 262 #[.pointer (some ⟨gz, 0, none⟩), .slice (some ⟨gd, o, none⟩) m cm] w fun e w' => ∃ (j : Nat) (v : Value), j = min m (bs.length - k) ∧ e = .returned (.tuple #[.int .i64 j, v]) ∧ ((v = .nilIface ∧ 0 < j) ∨ (v = ve ∧ j < m)) ∧ (S (k + j) w' ∧ R2At w' gz T pv) ∧ w'.heap[gd]? = some (.cells (putLs cs o (Lib.byteCells ((bs.drop k).take j))) t (0, 0)) ∧ Ex (fun x => (O x ∨ x = gz) ∨ x = gd) w w' := by
  obtain ⟨l, ls, b, hls, hgz⟩ := hR
  have hme := H.meth
  have hcf := H.enter
  have HC := Kp.mk (H.read k w gd t cs o m cm hS hD hd hos hmc hm0 hm)
  have c0 : w.cell? ⟨gz, 0, none⟩ = some (.iface T pv) := blk_cell hgz 0
  have c2 : w.cell? ⟨gz, 2, none⟩ = some (.int .u8 ls) := blk_cell hgz 2
  have q1 : ((ls : Int) == 1) = false := beq_eq_false_iff_ne.2 (by omega)
  have HH := Kp.mk H
  have HG := Kp.mk hgz
  have HX := Kp.mk (And.intro hz (And.intro hne (And.intro hos hm0)))
  obtain ⟨Te, ue, rfl⟩ := (H.errs _ _ hS).eofE.iface
  have hq := errV_same (H.errs _ _ hS).eofE
  have hqn : ∀ w', (binOp .eql 64 .nilIface (.iface Te ue)).run Tryz.prog w' = .ok (.bool false) w' := fun _ => by kernel_rfl
  have HLS := Kp.mk hls
  clear H hS hd hgz hD hne hos hm0 hz hls
  go_enter Tryz.func262, Tryz.ntmps262
  go_wp2_with fail
  refine HC.out.mono ?_
  rintro e w1 ⟨j, v, hj, rfl, hv, h1, h2, h3⟩
  have hE := HH.out.errs _ _ h1
  have ce := hE.eof
  have hgz1 : w1.heap[gz]? = some (.cells (r2Cs T pv l ls b) 265 (0, 0)) := h3.keep HG.out (fun hq => hq.elim (fun ho => HX.out.1 (HH.out.own _ ho)) (fun e => HX.out.2.1 e.symm))
  have HK := Kp.mk (And.intro hj (And.intro h1 (And.intro h2 (And.intro h3 hgz1))))
  by_cases h0 : j = 0
  · subst h0
    obtain rfl : v = .iface Te ue := by rcases hv with h | h; omega; exact h.1
    have HMJ : Kp (0 < m) := ⟨HX.out.2.2.2⟩
    clear hj hv h1 h2 h3 hgz1 hE HC c0 c2 q1
    go_wp2_with fail
    go_ret2
    exact ⟨0, _, HK.out.1, rfl, .inr ⟨rfl, HMJ.out⟩, ⟨HK.out.2.1, l, ls, b, HLS.out, HK.out.2.2.2.2⟩, HK.out.2.2.1, HK.out.2.2.2.1.mono (fun x hx => hx.elim (fun h => .inl (.inl h)) .inr)⟩
  · obtain ⟨i, rfl⟩ : ∃ i, j = i + 1 := ⟨j - 1, by omega⟩
    obtain ⟨x, hx, cx⟩ := put_last h2 HX.out.2.2.1 (by omega) (by omega) (by rw [List.length_drop]; omega)
    rw [show i + 1 - 1 = i by omega] at cx
    have f1 := blk_frozen hgz1 1
    have f2 := blk_frozen hgz1 2
    have c1 : w1.cell? ⟨gz, 1, none⟩ = some (.int .u8 l) := blk_cell hgz1 1
    have c2' : w1.cell? ⟨gz, 2, none⟩ = some (.int .u8 ls) := blk_cell hgz1 2
    have him : i < m := by omega
    rcases hv with ⟨rfl, _⟩ | ⟨rfl, hlt⟩
    · clear hj h1 h2 h3 hgz1 hE HC c0 c2 q1 hx h0
      go_wp2_with fail
      go_ret2
      have hx1 : Ex (fun x => (O x ∨ x = gz) ∨ x = gd) w w1 := HK.out.2.2.2.1.mono (fun x hx => hx.elim (fun h => .inl (.inl h)) .inr)
      have hx2 := (hx1.setCell (p := ⟨gz, 1, none⟩) (.inl (.inr rfl)) (.int .u8 (x.toNat : Int))).setCell (p := ⟨gz, 2, none⟩) (.inl (.inr rfl)) (.int .u8 2)
      have hxz := ((Ex.refl (fun y => y = gz) w1).setCell (p := ⟨gz, 1, none⟩) rfl (.int .u8 (x.toNat : Int))).setCell (p := ⟨gz, 2, none⟩) rfl (.int .u8 2)
      exact ⟨i + 1, _, HK.out.1, rfl, .inl ⟨rfl, by omega⟩, ⟨HH.out.frame _ _ _ HK.out.2.1 (hxz.mono (fun y hy hd => HX.out.1 (hy ▸ hd))), x.toNat, 2, b, by omega, blk_set (blk_set HK.out.2.2.2.2 1 (.int .u8 (x.toNat : Int))) 2 (.int .u8 2)⟩, hxz.keep HK.out.2.2.1 (by show ¬ gd = gz; exact HX.out.2.1), hx2⟩
    · clear hj h1 h2 h3 hgz1 hE HC c0 c2 q1 hx h0
      go_wp2_with fail
      go_ret2
      have hx1 : Ex (fun x => (O x ∨ x = gz) ∨ x = gd) w w1 := HK.out.2.2.2.1.mono (fun x hx => hx.elim (fun h => .inl (.inl h)) .inr)
      have hx2 := (hx1.setCell (p := ⟨gz, 1, none⟩) (.inl (.inr rfl)) (.int .u8 (x.toNat : Int))).setCell (p := ⟨gz, 2, none⟩) (.inl (.inr rfl)) (.int .u8 2)
      have hxz := ((Ex.refl (fun y => y = gz) w1).setCell (p := ⟨gz, 1, none⟩) rfl (.int .u8 (x.toNat : Int))).setCell (p := ⟨gz, 2, none⟩) rfl (.int .u8 2)
      exact ⟨i + 1, _, HK.out.1, rfl, .inr ⟨rfl, hlt⟩, ⟨HH.out.frame _ _ _ HK.out.2.1 (hxz.mono (fun y hy hd => HX.out.1 (hy ▸ hd))), x.toNat, 2, b, by omega, blk_set (blk_set HK.out.2.2.2.2 1 (.int .u8 (x.toNat : Int))) 2 (.int .u8 2)⟩, hxz.keep HK.out.2.2.1 (by show ¬ gd = gz; exact HX.out.2.1), hx2⟩

set_option maxHeartbeats 4000000 in
set_option maxRecDepth 100000 in
/-- (*readerToScanner).Read, into its own one byte, where one is there. -/
theorem r2sReadQ_calls (T : TypeId) (pv : Value) (fr : FuncId) (bs : List UInt8) (ve vu vo vn : Value) (O D : Nat → Prop) (S : Nat → World → Prop) (H : Src T pv fr bs ve vu vo vn O D S) (gz k : Nat) (hz : ¬ D gz) (w : World) (x : UInt8) (hS : S k w) (hR : R2At w gz T pv) (hx : bs[k]? = some x) :
    Calls Tryz.prog 262 #[.pointer (some ⟨gz, 0, none⟩), .slice (some ⟨gz, 3, none⟩) 1 1] w fun e w' => e = .returned (.tuple #[.int .i64 1, .nilIface]) ∧ S (k + 1) w' ∧ (∃ l ls : Nat, ls ≠ 1 ∧ w'.heap[gz]? = some (.cells (r2Cs T pv l ls x.toNat) 265 (0, 0))) ∧ Ex (fun x => O x ∨ x = gz) w w' := by
  obtain ⟨l, ls, b, hls, hgz⟩ := hR
  have hme := H.meth
  have hcf := H.enter
  have hlt : k < bs.length := (List.getElem?_eq_some_iff.1 hx).1
  have hd1 : (bs.drop k).take 1 = [x] := by rw [List.drop_eq_getElem_cons hlt, ← Option.some.inj ((List.getElem?_eq_getElem hlt).symm.trans hx)]; rfl
  have HC := Kp.mk (H.read k w gz _ (r2Cs T pv l ls b) 3 1 1 hS hz hgz (Nat.le_refl 4) (Nat.le_refl _) (by omega) (by omega))
  have c0 : w.cell? ⟨gz, 0, none⟩ = some (.iface T pv) := blk_cell hgz 0
  have c2 : w.cell? ⟨gz, 2, none⟩ = some (.int .u8 ls) := blk_cell hgz 2
  have q1 : ((ls : Int) == 1) = false := beq_eq_false_iff_ne.2 (by omega)
  have HH := Kp.mk H
  have HX := Kp.mk (And.intro hz (And.intro hlt hd1))
  obtain ⟨Te, ue, rfl⟩ := (H.errs _ _ hS).eofE.iface
  have hqn : ∀ w', (binOp .eql 64 .nilIface (.iface Te ue)).run Tryz.prog w' = .ok (.bool false) w' := fun _ => by kernel_rfl
  clear H hS hgz hz hls hx hlt hd1
  go_enter Tryz.func262, Tryz.ntmps262
  go_wp2_with fail
  refine HC.out.mono ?_
  rintro e w1 ⟨j, v, hj, rfl, hv, h1, h2, h3⟩
  obtain rfl : j = 1 := by have := HX.out.2.1; omega
  obtain rfl : v = .nilIface := by rcases hv with h | h; exact h.1; omega
  rw [HX.out.2.2] at h2
  have hgz1 : w1.heap[gz]? = some (.cells (r2Cs T pv l ls x.toNat) 265 (0, 0)) := h2
  have ce := (HH.out.errs _ _ h1).eof
  have HK := Kp.mk (And.intro h1 (And.intro hgz1 (h3.mono (fun y hy => hy))))
  have f1 := blk_frozen hgz1 1
  have f2 := blk_frozen hgz1 2
  have c1 : w1.cell? ⟨gz, 1, none⟩ = some (.int .u8 l) := blk_cell hgz1 1
  have c2' : w1.cell? ⟨gz, 2, none⟩ = some (.int .u8 ls) := blk_cell hgz1 2
  have c3 : w1.cell? ⟨gz, 3, none⟩ = some (.int .u8 (x.toNat : Int)) := blk_cell hgz1 3
  clear hj hv h1 h2 h3 hgz1 HC c0 c2 q1
  go_wp2_with fail
  go_ret2
  have hxz := ((Ex.refl (fun y => y = gz) w1).setCell (p := ⟨gz, 1, none⟩) rfl (.int .u8 (x.toNat : Int))).setCell (p := ⟨gz, 2, none⟩) rfl (.int .u8 2)
  exact ⟨rfl, HH.out.frame _ _ _ HK.out.1 (hxz.mono (fun y hy hd => HX.out.1 (hy ▸ hd))), ⟨x.toNat, 2, by omega, blk_set (blk_set HK.out.2.1 1 (.int .u8 (x.toNat : Int))) 2 (.int .u8 2)⟩, HK.out.2.2.trans (hxz.mono (fun y hy => .inr hy))⟩

set_option maxHeartbeats 4000000 in
set_option maxRecDepth 100000 in
/-- (*readerToScanner).ReadByte, where a byte is there. -/
theorem r2sByte_calls (T : TypeId) (pv : Value) (fr : FuncId) (bs : List UInt8) (ve vu vo vn : Value) (O D : Nat → Prop) (S : Nat → World → Prop) (H : Src T pv fr bs ve vu vo vn O D S) (gz k : Nat) (hz : ¬ D gz) (w : World) (x : UInt8) (hS : S k w) (hR : R2At w gz T pv) (hx : bs[k]? = some x) :
    Calls Tryz.prog 263 #[.pointer (some ⟨gz, 0, none⟩)] w fun e w' => e = .returned (.tuple #[.int .u8 (x.toNat : Int), .nilIface]) ∧ S (k + 1) w' ∧ R2At w' gz T pv ∧ Ex (fun x => O x ∨ x = gz) w w' := by
  have HC := Kp.mk (r2sReadQ_calls T pv fr bs ve vu vo vn O D S H gz k hz w x hS hR hx)
  have HH := Kp.mk H
  obtain ⟨Te, ue, rfl⟩ := (H.errs _ _ hS).eofE.iface
  have hqn : ∀ w', (binOp .eql 64 .nilIface (.iface Te ue)).run Tryz.prog w' = .ok (.bool false) w' := fun _ => by kernel_rfl
  clear H hS hz hx hR
  go_enter Tryz.func263, Tryz.ntmps263
  go_wp2_with fail
  refine HC.out.mono ?_
  rintro e w1 ⟨rfl, h1, ⟨l, ls, hls, hgz1⟩, h3⟩
  have ce := (HH.out.errs _ _ h1).eof
  have c3 : w1.cell? ⟨gz, 3, none⟩ = some (.int .u8 (x.toNat : Int)) := blk_cell hgz1 3
  have HK := Kp.mk (And.intro h1 (And.intro (⟨l, ls, x.toNat, hls, hgz1⟩ : R2At w1 gz T pv) h3))
  clear h1 hls hgz1 h3 HC
  go_wp2_with fail
  go_ret2
  exact ⟨rfl, HK.out.1, HK.out.2.1, HK.out.2.2⟩

/-- A readerToScanner as a reader. -/
theorem srcZ (T : TypeId) (pv : Value) (fr : FuncId) (bs : List UInt8) (ve vu vo vn : Value) (O D : Nat → Prop) (S : Nat → World → Prop) (H : Src T pv fr bs ve vu vo vn O D S) (gz : Nat) (hz : ¬ D gz) :
    Src 263 (.pointer (some ⟨gz, 0, none⟩)) 262 bs ve vu vo vn (fun x => O x ∨ x = gz) (fun x => D x ∨ x = gz) (fun k w => S k w ∧ R2At w gz T pv) := by
  refine ⟨fun _ => by kernel_rfl, fun _ => by kernel_rfl, enters_of Tryz.func262 (by kernel_rfl) rfl, ?_, fun k w w' h hx => ⟨H.frame k w w' h.1 (hx.mono (fun x hx hd => hx (.inl hd))), h.2.ex hx (fun hx => hx (.inr rfl))⟩, fun k w h => H.errs k w h.1, fun k w h x hx => hx.elim (H.old k w h.1 x) (fun e => e ▸ h.2.lt), fun x hx => hx.elim (fun h => .inl (H.own x h)) .inr⟩
  intro k w gd t cs o m cm hS hD hd hos hmc hm0 hm
  exact r2sRead_calls T pv fr bs ve vu vo vn O D S H gz k hz w gd t cs o m cm hS.1 hS.2 (fun h => hD (.inl h)) (fun h => hD (.inr h)) hd hos hmc hm0 hm

end Go.Proofs.YtkcpgcaccgahaaaGreatDoor
namespace Go.Proofs.YtkcpgcaccgahaaaGreatDoor
open Go.RowKit

/-- A SlickReaderStream in block gs over the readerToScanner in block gz; nothing is tracked. -/
def SlAt (w : World) (gs gz : Nat) : Prop := ∃ (cs : Array Value) (z : Int), w.heap[gs]? = some (.cells cs 270 (0, 0)) ∧ cs.size = 36 ∧ cs[0]? = some (.iface 263 (.pointer (some ⟨gz, 0, none⟩))) ∧ cs[33]? = some (.int .i64 z) ∧ cs[35]? = some (.bool false)
theorem SlAt.ex {P : Nat → Prop} {w w' : World} {gs gz : Nat} (h : SlAt w gs gz) (he : Ex P w w') (hp : ¬ P gs) : SlAt w' gs gz := by
  obtain ⟨cs, z, h1, h2⟩ := h
  exact ⟨cs, z, he.keep h1 hp, h2⟩
theorem SlAt.lt {w : World} {gs gz : Nat} (h : SlAt w gs gz) : gs < w.heap.size := by
  obtain ⟨cs, z, h1, h2⟩ := h
  exact (Array.getElem?_eq_some_iff.1 h1).1
theorem SlAt.put {w : World} {gs gz : Nat} (h : SlAt w gs gz) (v : Int) : SlAt (w.setCell ⟨gs, 33, none⟩ (.int .i64 v)) gs gz := by
  obtain ⟨cs, z, h1, h2, h3, h4, h5⟩ := h
  refine ⟨_, v, blk_set h1 33 _, by simpa using h2, ?_, ?_, ?_⟩
  · rw [Array.getElem?_setIfInBounds_ne (by decide)]; exact h3
  · rw [Array.getElem?_setIfInBounds_self_of_lt (by omega)]
  · rw [Array.getElem?_setIfInBounds_ne (by decide)]; exact h5
theorem slAt_scratch {w : World} {gs gz : Nat} {cs : Array Value} {z : Int} {vs : List Value} (h : w.heap[gs]? = some (.cells (putLs cs 1 vs) 270 (0, 0))) (hv : vs.length ≤ 32) (hsz : cs.size = 36) (h0 : cs[0]? = some (.iface 263 (.pointer (some ⟨gz, 0, none⟩)))) (h33 : cs[33]? = some (.int .i64 z)) (h35 : cs[35]? = some (.bool false)) : SlAt w gs gz := by
  refine ⟨_, z, h, by rw [putLs_size]; exact hsz, ?_, ?_, ?_⟩
  · rw [putLs_get _ _ _ _ (by omega), if_neg (by omega)]; exact h0
  · rw [putLs_get _ _ _ _ (by omega), if_neg (by omega)]; exact h33
  · rw [putLs_get _ _ _ _ (by omega), if_neg (by omega)]; exact h35
/-- The whole: reader, readerToScanner, SlickReaderStream; k bytes on. -/
structure SlS (T : TypeId) (pv : Value) (S : Nat → World → Prop) (gz gs k : Nat) (w : World) : Prop where
  src : S k w
  r2s : R2At w gz T pv
  sl : SlAt w gs gz
def slO (O : Nat → Prop) (gz gs x : Nat) : Prop := (O x ∨ x = gz) ∨ x = gs
def slD (D : Nat → Prop) (gz gs x : Nat) : Prop := D x ∨ x = gz ∨ x = gs
theorem SlS.frame {T : TypeId} {pv : Value} {fr : FuncId} {bs : List UInt8} {ve vu vo vn : Value} {O D : Nat → Prop} {S : Nat → World → Prop} (H : Src T pv fr bs ve vu vo vn O D S) {gz gs k : Nat} {w w' : World} (h : SlS T pv S gz gs k w) (he : Ex (fun x => ¬ slD D gz gs x) w w') : SlS T pv S gz gs k w' :=
  ⟨H.frame _ _ _ h.src (he.mono (fun _ hx hd => hx (.inl hd))), h.r2s.ex he (fun hx => hx (.inr (.inl rfl))), h.sl.ex he (fun hx => hx (.inr (.inr rfl)))⟩
theorem SlS.lt {T : TypeId} {pv : Value} {fr : FuncId} {bs : List UInt8} {ve vu vo vn : Value} {O D : Nat → Prop} {S : Nat → World → Prop} (H : Src T pv fr bs ve vu vo vn O D S) {gz gs k : Nat} {w : World} (h : SlS T pv S gz gs k w) : ∀ y, slD D gz gs y → y < w.heap.size := by
  rintro y (hx | rfl | rfl)
  · exact H.old _ _ h.src y hx
  · exact h.r2s.lt
  · exact h.sl.lt

set_option maxHeartbeats 4000000 in
set_option maxRecDepth 100000 in
/-- (*SlickReaderStream).Readn1. -/
theorem readn1_calls (T : TypeId) (pv : Value) (fr : FuncId) (bs : List UInt8) (ve vu vo vn : Value) (O D : Nat → Prop) (S : Nat → World → Prop) (H : Src T pv fr bs ve vu vo vn O D S) (gz gs : Nat) (hz : ¬ D gz) (hs : ¬ D gs) (hzs : gz ≠ gs) (k : Nat) (w : World) (x : UInt8) (hS : SlS T pv S gz gs k w) (hx : bs[k]? = some x) :
    Calls Tryz.prog 256 #[.pointer (some ⟨gs, 0, none⟩)] w fun e w' => e = .returned (.tuple #[.int .u8 (x.toNat : Int), .nilIface]) ∧ SlS T pv S gz gs (k + 1) w' ∧ Ex (slO O gz gs) w w' := by
  have hm : ∀ W, (method 453 263 (.pointer (some ⟨gz, 0, none⟩)) "ReadByte").run Tryz.prog W = .ok (263, .pointer (some ⟨gz, 0, none⟩)) W := fun _ => by kernel_rfl
  obtain ⟨h1, h2, cs, z, hcs, hsz, hc0, hc33, hc35⟩ := hS
  have HC := Kp.mk (r2sByte_calls T pv fr bs ve vu vo vn O D S H gz k hz w x h1 h2 hx)
  have c0 : w.cell? ⟨gs, 0, none⟩ = some (.iface 263 (.pointer (some ⟨gz, 0, none⟩))) := (blk_cell hcs 0).trans hc0
  have HH := Kp.mk H
  have HX := Kp.mk (And.intro hz (And.intro hs hzs))
  have HB := Kp.mk (And.intro hcs (And.intro hsz (And.intro hc0 (And.intro hc33 hc35))))
  clear H hz hs hzs h1 h2 hcs hsz hc0 hc33 hc35 hx
  go_enter Tryz.func256, Tryz.ntmps256
  go_wp2_with fail
  refine HC.out.mono ?_
  rintro e w1 ⟨rfl, h1, h2, h3⟩
  have hcs1 := h3.keep HB.out.1 (fun hq => hq.elim (fun ho => HX.out.2.1 (HH.out.own _ ho)) (fun e => HX.out.2.2 e.symm))
  have c33 : w1.cell? ⟨gs, 33, none⟩ = some (.int .i64 z) := (blk_cell hcs1 33).trans HB.out.2.2.2.1
  have f33 := blk_frozen hcs1 33
  have hsl : SlAt w1 gs gz := ⟨cs, z, hcs1, HB.out.2⟩
  have hex := fun v => (Ex.refl (fun y => y = gs) w1).setCell (p := ⟨gs, 33, none⟩) rfl v
  have c35 : ∀ v, (w1.setCell ⟨gs, 33, none⟩ v).cell? ⟨gs, 35, none⟩ = some (.bool false) := fun v => by rw [blk_cell (blk_set hcs1 33 v) 35, Array.getElem?_setIfInBounds_ne (by decide)]; exact HB.out.2.2.2.2
  have HE := Kp.mk (And.intro h1 (And.intro h2 (And.intro h3 (And.intro hsl hex))))
  clear h1 h2 h3 hcs1 c0 HC hsl hex
  go_wp2_with fail
  go_ret2
  obtain ⟨h1, h2, h3, hsl, hex⟩ := HE.out
  exact ⟨rfl, ⟨HH.out.frame _ _ _ h1 ((hex _).mono (fun y hy hd => HX.out.2.1 (hy ▸ hd))), h2.ex (hex _) HX.out.2.2, hsl.put _⟩, (h3.mono (fun y hy => .inl hy)).trans ((hex _).mono (fun y hy => .inr hy))⟩

set_option maxRecDepth 100000 in
theorem slice_scr (g o m : Nat) (hm : m ≤ 32) (W : World) : (Instr.sliceAt 268 (.pointer (some ⟨g, o, none⟩)) none (some (.int .i64 (m : Int))) none).run Tryz.prog W = .ok (.slice (some ⟨g, o, none⟩) m 32) W := by
  have hal : Tryz.prog.arrayLen 268 = 32 := by kernel_rfl
  have hel : Tryz.prog.elem 268 = 5 := by kernel_rfl
  obtain ⟨i, hi, _, hs, _⟩ := info_parts info_u8
  have hsz : (sizeOf 5).run Tryz.prog W = .ok 1 W := by simp [sizeOf, typeInfo, hi, hs]
  rw [run_sliceAt_array_h W 268 _ (by kernel_rfl) .i64 (m : Int) (by omega) (by rw [hal]; omega), hal, hel, hsz]
  show Result.ok (slicedAt _ 0 (m : Int).toNat 32 1) W = _
  unfold slicedAt
  rw [if_neg (by decide), Int.toNat_natCast, add_plain]
  rfl

set_option maxHeartbeats 4000000 in
set_option maxRecDepth 100000 in
/-- (*SlickReaderStream).readnPartial of fewer bytes than its scratch has. -/
theorem rpSmall_calls (T : TypeId) (pv : Value) (fr : FuncId) (bs : List UInt8) (ve vu vo vn : Value) (O D : Nat → Prop) (S : Nat → World → Prop) (H : Src T pv fr bs ve vu vo vn O D S) (gz gs : Nat) (hz : ¬ D gz) (hs : ¬ D gs) (hzs : gz ≠ gs) (k m : Nat) (w : World) (hS : SlS T pv S gz gs k w) (hm0 : 0 < m) (hm : m < 32) (hav : k + m ≤ bs.length) :
    Calls Tryz.prog 261 #[.pointer (some ⟨gs, 0, none⟩), .int .i64 m] w fun e w' => e = .returned (.tuple #[.slice (some ⟨gs, 1, none⟩) m 32, .nilIface]) ∧ RdB w' (some ⟨gs, 1, none⟩) m 32 ((bs.drop k).take m) ∧ SlS T pv S gz gs (k + m) w' ∧ Ex (slO O gz gs) w w' := by
  obtain ⟨h1, h2, cs, z, hcs, hsz, hc0, hc33, hc35⟩ := hS
  have HC := Kp.mk (atLeastS_calls _ _ _ bs ve vu vo vn _ _ _ (srcZ T pv fr bs ve vu vo vn O D S H gz hz) k w gs _ cs 1 m 32 ⟨h1, h2⟩ (fun h => h.elim hs (fun e => hzs e.symm)) hcs (by omega) (by omega) hm0 (by omega))
  have c0 : w.cell? ⟨gs, 0, none⟩ = some (.iface 263 (.pointer (some ⟨gz, 0, none⟩))) := (blk_cell hcs 0).trans hc0
  have HH := Kp.mk H
  have HX := Kp.mk (And.intro hz (And.intro hs (And.intro hzs (And.intro hm0 hav))))
  have HB := Kp.mk (And.intro hcs (And.intro hsz (And.intro hc0 (And.intro hc33 hc35))))
  have hm00 : ((m : Int) == 0) = false := beq_eq_false_iff_ne.2 (by omega)
  have hscr := slice_scr gs 1 m (by omega)
  obtain ⟨j, hj⟩ : ∃ j, j = min m (bs.length - k) := ⟨_, rfl⟩
  obtain rfl : j = m := by omega
  have HJ := Kp.mk (And.intro hj (show rfV j (bs.length - k) ve vu = .nilIface from if_pos (by omega)))
  clear H hz hs hzs h1 h2 hcs hsz hc0 hc33 hc35 hav hj
  go_enter Tryz.func261, Tryz.ntmps261
  go_wp2_with fail
  refine HC.out.mono ?_
  rintro e w1 ⟨rfl, ⟨h1, h2⟩, h3, h4⟩
  rw [← HJ.out.1] at h1 h3
  rw [← HJ.out.1, HJ.out.2]
  have hlen : ((bs.drop k).take j).length = j := by rw [List.length_take, List.length_drop]; have := HX.out; omega
  have hrd := rd_put (cm := 32) h3 (by rw [hlen]; have := HB.out.2.1; omega) (by omega) (by omega)
  rw [hlen] at hrd
  have hsl : SlAt w1 gs gz := slAt_scratch h3 (by rw [Lib.byteCells_length, hlen]; omega) HB.out.2.1 HB.out.2.2.1 HB.out.2.2.2.1 HB.out.2.2.2.2
  obtain ⟨cs1, z1, hcs1, hsz1, _, hc331, hc351⟩ := hsl
  have hsl : SlAt w1 gs gz := ⟨cs1, z1, hcs1, hsz1, by assumption, hc331, hc351⟩
  have c33 : w1.cell? ⟨gs, 33, none⟩ = some (.int .i64 z1) := (blk_cell hcs1 33).trans hc331
  have f33 := blk_frozen hcs1 33
  have hex := fun v => (Ex.refl (fun y => y = gs) w1).setCell (p := ⟨gs, 33, none⟩) rfl v
  have c35 : ∀ v, (w1.setCell ⟨gs, 33, none⟩ v).cell? ⟨gs, 35, none⟩ = some (.bool false) := fun v => by rw [blk_cell (blk_set hcs1 33 v) 35, Array.getElem?_setIfInBounds_ne (by decide)]; exact hc351
  have hrd2 : ∀ v, RdB (w1.setCell ⟨gs, 33, none⟩ v) (some ⟨gs, 1, none⟩) j 32 ((bs.drop k).take j) := fun v => ⟨hrd.len, hrd.cap, hrd.most, fun h0 => by
    obtain ⟨g', o', e, hc⟩ := hrd.lies h0
    have e' := Option.some.inj e
    simp only [Addr.mk.injEq] at e'
    obtain ⟨rfl, rfl, _⟩ := e'
    refine ⟨gs, 1, rfl, fun i hi => ?_⟩
    have hil : i < j := by rw [hlen] at hi; exact hi
    rw [blk_cell (blk_set hcs1 33 v), Array.getElem?_setIfInBounds_ne (by omega), ← blk_cell hcs1]
    exact hc i hi⟩
  have HE := Kp.mk (And.intro h1 (And.intro h2 (And.intro h4 (And.intro hsl (And.intro hex hrd2)))))
  clear h1 h2 h3 h4 hcs1 c0 HC hsl hex hrd hrd2 hsz1 hc331 hc351 hlen
  go_wp2_with fail
  go_ret2
  obtain ⟨h1, h2, h3, hsl, hex, hrd2⟩ := HE.out
  exact ⟨rfl, hrd2 _, ⟨HH.out.frame _ _ _ h1 ((hex _).mono (fun y hy hd => HX.out.2.1 (hy ▸ hd))), h2.ex (hex _) HX.out.2.2.1, hsl.put _⟩, h3.trans ((hex _).mono (fun y hy => .inr hy))⟩

theorem mk0 (m : Nat) (hm : m ≤ 140737488355328) (W : World) : (Instr.makeSlice 67 (.int .i64 0) (.int .i64 (m : Int))).run Tryz.prog W = .ok (.slice (some ⟨W.heap.size, 0, none⟩) 0 m) (W.alloc (.cells (zeros m) 5)) := by
  obtain ⟨i, hi, hz, hs, hb⟩ := info_parts info_u8
  have h := run_make (P := Tryz.prog) W 67 5 i _ Tryz.underlying67 hi hz .i64 .i64 0 (m : Int) (by omega) (by omega) (by rw [hb]; omega) (by omega)
  simp only [Int.toNat_natCast, hs, Nat.mul_one] at h
  have hmc : madeCells (Value.cells (.int .u8 0)) m = zeros m := by
    apply Array.ext
    · rw [size_madeCells, zeros_size]
    · intro j h1 h2
      simp [madeCells, zeros, Value.cells, Nat.mod_one]
  rw [hmc] at h
  exact h
theorem slice_to (d n c hi : Nat) (h0 : 0 < c) (h2 : hi ≤ c) (W : World) :
    (Instr.slice 67 (.slice (some ⟨d, 0, none⟩) n c) none (some (.int .i64 (hi : Int))) none).run Tryz.prog W = .ok (.slice (some ⟨d, 0, none⟩) hi c) W := by
  obtain ⟨i, hi', _, hs, _⟩ := info_parts info_u8
  have hel : Tryz.prog.elem 67 = 5 := by simp [Program.elem, Tryz.underlying67]
  have hu : Tryz.prog.underlying 67 = some (.slice (Tryz.prog.elem 67)) := by rw [hel]; exact Tryz.underlying67
  rw [run_slice_h W 67 _ n c hu .i64 (hi : Int) (by omega) (by omega), hel]
  have hne : ¬ c = 0 := by omega
  simp [sizeOf, typeInfo, hi', hs, sliced, Result.andThen, hne, add_plain]

def rpB (gz gs gb m : Nat) (j : Nat) (v : Value) (_ : World) : Prop :=
  match j with
  | 0 => v = .pointer (some ⟨gs, 0, none⟩)
  | 1 => v = .pointer (some ⟨gs, 0, none⟩)
  | 2 => v = .pointer (some ⟨gs, 0, none⟩)
  | 3 => v = .iface 263 (.pointer (some ⟨gz, 0, none⟩))
  | 4 => v = .slice (some ⟨gb, 0, none⟩) m m
  | 5 => v = .int .i64 0
  | 6 => v = .slice (some ⟨gb, 0, none⟩) m m
  | 7 => v = .int .i64 m
  | _ => True
def rpB' (m : Nat) (j : Nat) (v : Value) (_ : World) : Prop :=
  match j with
  | 8 => v = .tuple #[.int .i64 m, .nilIface]
  | 9 => v = .tuple #[.int .i64 m, .nilIface]
  | 10 => v = .int .i64 m
  | 11 => v = .nilIface
  | 12 => v = .int .i64 m
  | 13 => v = .nilIface
  | _ => True

set_option maxHeartbeats 4000000 in
set_option maxRecDepth 100000 in
/-- (*SlickReaderStream).readnPartial of more bytes than its scratch has. -/
theorem rpBig_calls (T : TypeId) (pv : Value) (fr : FuncId) (bs : List UInt8) (ve vu vo vn : Value) (O D : Nat → Prop) (S : Nat → World → Prop) (H : Src T pv fr bs ve vu vo vn O D S) (gz gs : Nat) (hz : ¬ D gz) (hs : ¬ D gs) (hzs : gz ≠ gs) (k m : Nat) (w : World) (hS : SlS T pv S gz gs k w) (hm0 : 32 ≤ m) (hm : m ≤ 4096) (hav : k + m ≤ bs.length) :
    Calls Tryz.prog 261 #[.pointer (some ⟨gs, 0, none⟩), .int .i64 m] w fun e w' => ∃ gb, w.heap.size ≤ gb ∧ e = .returned (.tuple #[.slice (some ⟨gb, 0, none⟩) m m, .nilIface]) ∧ RdB w' (some ⟨gb, 0, none⟩) m m ((bs.drop k).take m) ∧ SlS T pv S gz gs (k + m) w' ∧ Ex (slO O gz gs) w w' := by
  have HS := Kp.mk hS
  have HH := Kp.mk H
  have HX := Kp.mk (And.intro hz (And.intro hs (And.intro hzs hav)))
  have hm00 : ((m : Int) == 0) = false := beq_eq_false_iff_ne.2 (by omega)
  have hmk := mk0 m (by omega)
  clear H hz hs hzs hav hS
  go_enter Tryz.func261, Tryz.ntmps261
  go_wp2_with fail
  obtain ⟨gb, hgb⟩ : ∃ gb, gb = w.heap.size := ⟨_, rfl⟩
  have hal := bel_alloc (Below.refl w.heap.size w) (.cells (zeros m) 5)
  have hgbk := blk_new (w := w) (o := .cells (zeros m) 5) (Below.refl _ _)
  generalize hW : w.alloc (.cells (zeros m) 5) = W at *
  rw [← hgb] at hgbk ⊢
  have hald : Below w.heap.size w W.drew := bel_drew hal
  have hS1 := HS.out.frame HH.out (Ex.of_below hald)
  have hnD : ∀ y, slD D gz gs y → y ≠ gb := fun y hy e => by have := HS.out.lt HH.out y hy; omega
  obtain ⟨h1, h2, cs, z, hcs, hsz, hc0, hc33, hc35⟩ := hS1
  have HC := Kp.mk (atLeastS_calls _ _ _ bs ve vu vo vn _ _ _ (srcZ T pv fr bs ve vu vo vn O D S HH.out gz HX.out.1) k W.drew gb _ (zeros m) 0 m m ⟨h1, h2⟩ (fun h => h.elim (fun h => hnD _ (.inl h) rfl) (fun e => hnD _ (.inr (.inl rfl)) e.symm)) (show W.drew.heap[gb]? = _ from hgbk) (by rw [zeros_size]; omega) (by omega) (by omega) (by omega))
  have c0 : W.drew.cell? ⟨gs, 0, none⟩ = some (.iface 263 (.pointer (some ⟨gz, 0, none⟩))) := (blk_cell hcs 0).trans hc0
  have HB := Kp.mk (And.intro hcs (And.intro hsz (And.intro hc0 (And.intro hc33 hc35))))
  have HG := Kp.mk (And.intro hgb (And.intro hald (And.intro hgbk hnD)))
  have hto := slice_to gb 0 m m (by omega) (Nat.le_refl _)
  have hct := fun W => cut_off 67 .i64 Tryz.underlying67 gb 0 m m 0 (by omega) (Nat.le_refl _) W
  simp only [Int.natCast_zero, Nat.sub_zero, Nat.add_zero] at hct
  obtain ⟨j, hj⟩ : ∃ j, j = min m (bs.length - k) := ⟨_, rfl⟩
  obtain rfl : j = m := by have := HX.out.2.2.2; omega
  have HJ := Kp.mk (And.intro hj (show rfV j (bs.length - k) ve vu = .nilIface from if_pos (by have := HX.out.2.2.2; omega)))
  clear hj hgb hal hald hgbk hW hnD h1 h2 hcs hsz hc0 hc33 hc35 hmk
  refine wp_loop_rounds 2 ?_
  rw [rounds_succ]
  go_wp2_with fail
  refine wp_region_growR (fun u u' => u = u') (fun _ => rfl) (fun _ _ _ h k => h.trans k) (by kernel_rfl) 8 (by decide) (apart_of (by kernel_rfl)) (by kernel_rfl) (rpB gz gs gb j) (fun _ _ _ _ => True) (fun _ _ _ _ h _ => by unfold rpB at *; exact h) ?_ ?_
  · intro j hj ob ho vs w2 hb hpre
    subst hb
    rcases j with _ | _ | _ | _ | _ | _ | _ | _ | j
    · obtain rfl := Option.some.inj ho
      simp only [canon, List.range, List.range.loop, List.foldl]
      go_simp
      all_goals first | rfl | exact ⟨rfl, rfl⟩ | trivial
    · have e0 : vs 0 = _ := hpre 0 (by decide) (by obtain rfl := Option.some.inj ho; rfl)
      obtain rfl := Option.some.inj ho
      simp only [canon, List.range, List.range.loop, List.foldl]
      go_simp
      all_goals first | rfl | exact ⟨rfl, rfl⟩ | trivial
    · have e1 : vs 1 = _ := hpre 1 (by decide) (by obtain rfl := Option.some.inj ho; rfl)
      obtain rfl := Option.some.inj ho
      simp only [canon, List.range, List.range.loop, List.foldl]
      go_simp
      all_goals first | rfl | exact ⟨rfl, rfl⟩ | trivial
    · have e2 : vs 2 = _ := hpre 2 (by decide) (by obtain rfl := Option.some.inj ho; rfl)
      obtain rfl := Option.some.inj ho
      simp only [canon, List.range, List.range.loop, List.foldl]
      go_simp
      all_goals first | rfl | exact ⟨rfl, rfl⟩ | trivial
    · obtain rfl := Option.some.inj ho
      simp only [canon, List.range, List.range.loop, List.foldl]
      go_simp
      all_goals first | rfl | exact ⟨rfl, rfl⟩ | trivial
    · obtain rfl := Option.some.inj ho
      simp only [canon, List.range, List.range.loop, List.foldl]
      go_simp
      all_goals first | rfl | exact ⟨rfl, rfl⟩ | trivial
    · have e4 : vs 4 = _ := hpre 4 (by decide) (by obtain rfl := Option.some.inj ho; rfl)
      have e5 : vs 5 = _ := hpre 5 (by decide) (by obtain rfl := Option.some.inj ho; rfl)
      obtain rfl := Option.some.inj ho
      simp only [canon, List.range, List.range.loop, List.foldl]
      go_simp
      all_goals first | rfl | exact ⟨rfl, rfl⟩ | trivial
    · obtain rfl := Option.some.inj ho
      simp only [canon, List.range, List.range.loop, List.foldl]
      go_simp
      all_goals first | rfl | exact ⟨rfl, rfl⟩ | trivial
    · omega
  · intro vs w2 hb hr _
    subst hb
    have e3 : vs 3 = _ := hr 3 (by omega)
    have e6 : vs 6 = _ := hr 6 (by omega)
    have e7 : vs 7 = _ := hr 7 (by omega)
    simp only [canon, List.range, List.range.loop, List.foldl]
    refine wpAny_last 8 (by kernel_rfl) ?_
    refine wpOp_go rfl rfl ?_
    go_simp
    refine HC.out.mono ?_
    rintro e w1 ⟨rfl, ⟨h1, h2⟩, h3, h4⟩
    rw [← HJ.out.1] at h1 h3
    rw [← HJ.out.1, HJ.out.2]
    have hlen : ((bs.drop k).take j).length = j := by rw [List.length_take, List.length_drop]; have := HX.out.2.2.2; omega
    have hrd := rd_put (cm := j) h3 (by rw [hlen, zeros_size]; omega) (by omega) (by omega)
    rw [hlen] at hrd
    have hcs1 := h4.keep HB.out.1 (fun hq => hq.elim (fun ho => ho.elim (fun ho => HX.out.2.1 (HH.out.own _ ho)) (fun e => HX.out.2.2.1 e.symm)) (fun e => HG.out.2.2.2 _ (.inr (.inr rfl)) e))
    have HK := Kp.mk (And.intro h1 (And.intro h2 (And.intro hrd (And.intro h4 hcs1))))
    clear h1 h2 h3 h4 hlen hrd hcs1 HC c0
    refine wpAny_restR (fun u u' => u = u') (fun _ => rfl) (fun _ _ _ h k => h.trans k) 9 14 rfl (by decide) (apart_of (by kernel_rfl)) (by kernel_rfl) (rpB' j) (fun _ _ _ _ h _ => by unfold rpB' at *; exact h) ?_ ?_ ?_
    · intro i hi
      rcases i with _ | _ | _ | _ | _ | _ | _ | _ | _ | i
      all_goals first | trivial | rfl | omega
    · intro j hkj hj ob ho vs w2 hb hpre
      subst hb
      rcases j with _ | _ | _ | _ | _ | _ | _ | _ | _ | _ | _ | _ | _ | _ | j
      iterate 9 (· omega)
      · have e8 : vs 8 = _ := hpre 8 (by decide) (by obtain rfl := Option.some.inj ho; rfl)
        obtain rfl := Option.some.inj ho
        simp only [canon, List.range, List.range.loop, List.foldl]
        go_simp
        all_goals first | rfl | exact ⟨rfl, rfl⟩ | trivial
      · have e9 : vs 9 = _ := hpre 9 (by decide) (by obtain rfl := Option.some.inj ho; rfl)
        obtain rfl := Option.some.inj ho
        simp only [canon, List.range, List.range.loop, List.foldl]
        go_simp
        all_goals first | rfl | exact ⟨rfl, rfl⟩ | trivial
      · have e9 : vs 9 = _ := hpre 9 (by decide) (by obtain rfl := Option.some.inj ho; rfl)
        obtain rfl := Option.some.inj ho
        simp only [canon, List.range, List.range.loop, List.foldl]
        go_simp
        all_goals first | rfl | exact ⟨rfl, rfl⟩ | trivial
      · have e10 : vs 10 = _ := hpre 10 (by decide) (by obtain rfl := Option.some.inj ho; rfl)
        obtain rfl := Option.some.inj ho
        simp only [canon, List.range, List.range.loop, List.foldl]
        go_simp
        all_goals first | rfl | exact ⟨rfl, rfl⟩ | trivial
      · have e11 : vs 11 = _ := hpre 11 (by decide) (by obtain rfl := Option.some.inj ho; rfl)
        obtain rfl := Option.some.inj ho
        simp only [canon, List.range, List.range.loop, List.foldl]
        go_simp
        all_goals first | rfl | exact ⟨rfl, rfl⟩ | trivial
      · omega
    · intro vs w2 hb hr
      subst hb
      have e9 : vs 9 = _ := hr 9 (by omega)
      have e10 : vs 10 = _ := hr 10 (by omega)
      have e11 : vs 11 = _ := hr 11 (by omega)
      have e12 : vs 12 = _ := hr 12 (by omega)
      have e13 : vs 13 = _ := hr 13 (by omega)
      simp only [canon, List.range, List.range.loop, List.foldl]
      rw [e9, e10, e11, e12, e13]
      have hsl : SlAt w1 gs gz := ⟨cs, z, HK.out.2.2.2.2, HB.out.2⟩
      have hcs1 := HK.out.2.2.2.2
      have c33 : w1.cell? ⟨gs, 33, none⟩ = some (.int .i64 z) := (blk_cell hcs1 33).trans HB.out.2.2.2.1
      have f33 := blk_frozen hcs1 33
      have hex := fun v => (Ex.refl (fun y => y = gs) w1).setCell (p := ⟨gs, 33, none⟩) rfl v
      have c35 : ∀ v, (w1.setCell ⟨gs, 33, none⟩ v).cell? ⟨gs, 35, none⟩ = some (.bool false) := fun v => by rw [blk_cell (blk_set hcs1 33 v) 35, Array.getElem?_setIfInBounds_ne (by decide)]; exact HB.out.2.2.2.2
      have HE := Kp.mk (And.intro hsl hex)
      clear hsl hcs1 hex hr e3 e6 e7
      go_wp2_with fail
      rw [rounds_succ]
      go_wp2_with fail
      go_ret2
      obtain ⟨h1, h2, hrd, h4, _⟩ := HK.out
      obtain ⟨hgb, hald, hgbk, hnD⟩ := HG.out
      have hx : Ex (fun y => ((O y ∨ y = gz) ∨ y = gb) ∨ y = gs) W.drew (w1.setCell ⟨gs, 33, none⟩ (.int .i64 (wrap64 (z + (j : Int))))) := (h4.mono (fun y hy => .inl hy)).trans ((HE.out.2 _).mono (fun y hy => .inr hy))
      exact ⟨gb, by omega, rfl, hrd.far (p := ⟨gs, 33, none⟩) (fun e => hnD _ (.inr (.inr rfl)) e.symm), ⟨HH.out.frame _ _ _ h1 ((HE.out.2 _).mono (fun y hy hd => HX.out.2.1 (hy ▸ hd))), h2.ex (HE.out.2 _) HX.out.2.2.1, HE.out.1.put _⟩, Ex.new hald hx (fun y hy hq => hq.elim (fun h => h.elim .inl (fun e => absurd hy (by omega))) .inr)⟩

set_option maxHeartbeats 2000000 in
set_option maxRecDepth 100000 in
/-- (*SlickReaderStream).Readnzc of a few bytes. -/
theorem readnzc_calls (T : TypeId) (pv : Value) (fr : FuncId) (bs : List UInt8) (ve vu vo vn : Value) (O D : Nat → Prop) (S : Nat → World → Prop) (H : Src T pv fr bs ve vu vo vn O D S) (gz gs : Nat) (hz : ¬ D gz) (hs : ¬ D gs) (hzs : gz ≠ gs) (k m : Nat) (w : World) (hS : SlS T pv S gz gs k w) (hm0 : 0 < m) (hm : m < 32) (hav : k + m ≤ bs.length) :
    Calls Tryz.prog 257 #[.pointer (some ⟨gs, 0, none⟩), .int .i64 m] w fun e w' => e = .returned (.tuple #[.slice (some ⟨gs, 1, none⟩) m 32, .nilIface]) ∧ RdB w' (some ⟨gs, 1, none⟩) m 32 ((bs.drop k).take m) ∧ SlS T pv S gz gs (k + m) w' ∧ Ex (slO O gz gs) w w' := by
  have HC := Kp.mk (rpSmall_calls T pv fr bs ve vu vo vn O D S H gz gs hz hs hzs k m w hS hm0 hm hav)
  clear H hz hs hzs hS hav
  go_enter Tryz.func257, Tryz.ntmps257
  go_wp2_with fail
  refine HC.out.mono ?_
  rintro e w1 ⟨rfl, h⟩
  have HK := Kp.mk h
  clear h HC
  go_wp2_with fail
  go_ret2
  exact ⟨rfl, HK.out⟩

set_option maxHeartbeats 4000000 in
set_option maxRecDepth 100000 in
/-- (*SlickReaderStream).Readn of many bytes. -/
theorem readnBig_calls (T : TypeId) (pv : Value) (fr : FuncId) (bs : List UInt8) (ve vu vo vn : Value) (O D : Nat → Prop) (S : Nat → World → Prop) (H : Src T pv fr bs ve vu vo vn O D S) (gz gs : Nat) (hz : ¬ D gz) (hs : ¬ D gs) (hzs : gz ≠ gs) (k m : Nat) (w : World) (hS : SlS T pv S gz gs k w) (hm0 : 32 ≤ m) (hm : m ≤ 4096) (hav : k + m ≤ bs.length) :
    Calls Tryz.prog 255 #[.pointer (some ⟨gs, 0, none⟩), .int .i64 m] w fun e w' => ∃ gb cap, w.heap.size ≤ gb ∧ e = .returned (.tuple #[.slice (some ⟨gb, 0, none⟩) m cap, .nilIface]) ∧ RdB w' (some ⟨gb, 0, none⟩) m cap ((bs.drop k).take m) ∧ SlS T pv S gz gs (k + m) w' ∧ Ex (slO O gz gs) w w' := by
  have HC := Kp.mk (rpBig_calls T pv fr bs ve vu vo vn O D S H gz gs hz hs hzs k m w hS hm0 hm hav)
  clear H hz hs hzs hS hav
  go_enter Tryz.func255, Tryz.ntmps255
  go_wp2_with fail
  refine HC.out.mono ?_
  rintro e w1 ⟨gb, hgb, rfl, h⟩
  have HK := Kp.mk h
  have HG := Kp.mk hgb
  clear h HC hgb
  go_wp2_with fail
  go_ret2
  exact ⟨gb, m, HG.out, rfl, HK.out⟩

/-- append([]byte(nil), b...). -/
theorem app_nil (W : World) (g o m c : Nat) (xs : List UInt8) (hr : RdB W (some ⟨g, o, none⟩) m c xs) (h0 : 0 < m) (hm : m ≤ 4294967296) :
    ∃ W' cap, (Builtin.append_ #[67, 67] 67 #[.slice none 0 0, .slice (some ⟨g, o, none⟩) m c]).run Tryz.prog W = .ok (.slice (some ⟨W.heap.size, 0, none⟩) m cap) W' ∧ RdB W' (some ⟨W.heap.size, 0, none⟩) m cap xs ∧ Below W.heap.size W W' := by
  obtain ⟨i, hi, hz, hs, hb⟩ := info_parts info_u8
  have hl := hr.len
  have hf : (Lib.byteCells xs).length = m := by rw [Lib.byteCells_length, hl]
  have h := run_append_nil (P := Tryz.prog) W 67 67 5 i _ Tryz.underlying67 hi hz ⟨g, o, none⟩ m c (Lib.byteCells xs) (by rw [hf, hs, Nat.mul_one]) (fun j v hj => by
    obtain ⟨g', o', e, hc⟩ := hr.lies h0
    have e' := Option.some.inj e
    simp only [Addr.mk.injEq] at e'
    obtain ⟨rfl, rfl, _⟩ := e'
    have hjl : j < xs.length := by have := (List.getElem?_eq_some_iff.1 hj).1; rwa [Lib.byteCells_length] at this
    rw [add_plain, hc j hjl]
    rw [Lib.byteCells, List.getElem?_map, List.getElem?_eq_getElem hjl] at hj
    exact hj) h0 (by omega) (by rw [hb]; omega)
  have hcap := grownCap_ge W m 5
  have hcap2 := grownCap_lt W m 5 (by omega)
  refine ⟨_, _, h, ⟨hl, hcap, by omega, fun _ => ⟨W.heap.size, 0, rfl, fun k hk => ?_⟩⟩, bel_alloc (bel_drew (Below.refl _ _)) _⟩
  have hbk : ∀ o : Obj, (W.drew.alloc o).heap[W.heap.size]? = some o := fun o => blk_new (w := W.drew) (Below.refl _ _)
  rw [blk_cell (hbk _), Nat.zero_add, Array.getElem?_append_left (by simp [hf]; omega)]
  simp [Lib.byteCells, hk]

set_option maxHeartbeats 4000000 in
set_option maxRecDepth 100000 in
/-- (*SlickReaderStream).Readn of a few bytes. -/
theorem readnSmall_calls (T : TypeId) (pv : Value) (fr : FuncId) (bs : List UInt8) (ve vu vo vn : Value) (O D : Nat → Prop) (S : Nat → World → Prop) (H : Src T pv fr bs ve vu vo vn O D S) (gz gs : Nat) (hz : ¬ D gz) (hs : ¬ D gs) (hzs : gz ≠ gs) (k m : Nat) (w : World) (hS : SlS T pv S gz gs k w) (hm0 : 0 < m) (hm : m < 32) (hav : k + m ≤ bs.length) :
    Calls Tryz.prog 255 #[.pointer (some ⟨gs, 0, none⟩), .int .i64 m] w fun e w' => ∃ gb cap, w.heap.size ≤ gb ∧ e = .returned (.tuple #[.slice (some ⟨gb, 0, none⟩) m cap, .nilIface]) ∧ RdB w' (some ⟨gb, 0, none⟩) m cap ((bs.drop k).take m) ∧ SlS T pv S gz gs (k + m) w' ∧ Ex (slO O gz gs) w w' := by
  have HC := Kp.mk (rpSmall_calls T pv fr bs ve vu vo vn O D S H gz gs hz hs hzs k m w hS hm0 hm hav)
  clear hz hs hzs hS hav
  go_enter Tryz.func255, Tryz.ntmps255
  go_wp2_with fail
  refine HC.out.mono ?_
  rintro e w1 ⟨rfl, h1, h2, h3⟩
  obtain ⟨W', cap, hap, hrd, hbl⟩ := app_nil w1 gs 1 m 32 _ h1 hm0 (by omega)
  have HAP := Kp.mk hap
  have HK := Kp.mk (And.intro h1 (And.intro h2 (And.intro h3 (And.intro hrd hbl))))
  clear h1 h2 h3 HC hap hrd hbl
  go_wp2_with (at_builtin; refine Lib.wpList_append_run _ rfl _ _ _ _ rfl _ _ rfl rfl _ _ HAP.out ?_)
  go_ret2
  obtain ⟨h1, h2, h3, hrd, hbl⟩ := HK.out
  exact ⟨_, cap, h3.size, rfl, hrd, h2.frame H (Ex.of_below hbl), h3.trans (Ex.of_below hbl)⟩

end Go.Proofs.YtkcpgcaccgahaaaGreatDoor
