/- Some texts in one: Rdr, Ex, RdByte, RdrG. -/
import Derived.Test.YtkcpgcaccgahaaaGreatDoorMhEnc
import Derived.Test.YtkcpgcaccgahaaaGreatDoorGrowA
namespace Go.Proofs.YtkcpgcaccgahaaaGreatDoor
open Go.RowKit

/-- A reader that lies in block g, with i bytes read. -/
def RdrAt (w : World) (g ga n c i : Nat) (q : Int) : Prop :=
  w.heap[g]? = some (.cells #[.slice (some ⟨ga, 0, none⟩) n c, .int .i64 (i : Int), .int .i64 q] 139 (0, 0))

theorem copy_take (W : World) (g o n c c' k ga oa : Nat) (bs : List UInt8) (hr : RdB W (some ⟨ga, oa, none⟩) k c' bs) (hk : n ≤ k) (hc : ∀ j, j < n → (W.cell? ⟨g, o + j, none⟩).isSome = true) (hf : ∀ j, j < n → W.frozen? ⟨g, o + j, none⟩ = false) :
    (Builtin.copy_ #[67, 67] 3 #[.slice (some ⟨g, o, none⟩) n c, .slice (some ⟨ga, oa, none⟩) k c']).run Tryz.prog W = .ok (goInt n) (W.setCells g o (Lib.byteCells (bs.take n))) := by
  have hl := hr.len
  have hlt : (bs.take n).length = n := by rw [List.length_take]; omega
  have h := run_copy_cells (P := Tryz.prog) W 67 67 3 5 g o n c ⟨ga, oa, none⟩ k c' (Lib.byteCells (bs.take n)) Tryz.underlying67 (by kernel_rfl) (by rw [Lib.byteCells_length, hlt]; exact (Nat.min_eq_right hk).symm)
    (fun j v hj => by
      have hjl : j < (bs.take n).length := by
        have := (List.getElem?_eq_some_iff.1 hj).1
        rwa [Lib.byteCells_length] at this
      obtain ⟨g', o', e, hcell⟩ := hr.lies (by omega)
      have e' := Option.some.inj e
      simp only [Addr.mk.injEq] at e'
      obtain ⟨rfl, rfl, _⟩ := e'
      rw [add_plain, hcell j (by omega)]
      rw [Lib.byteCells, List.getElem?_map, List.getElem?_eq_getElem hjl, List.getElem_take] at hj
      exact hj)
    (fun j hj => hc j (by rw [Lib.byteCells_length] at hj; omega)) (fun j hj => hf j (by rw [Lib.byteCells_length] at hj; omega)) (fun v hv => by
      simp only [Lib.byteCells, List.mem_map] at hv
      obtain ⟨b, _, rfl⟩ := hv
      rfl)
  rw [Lib.byteCells_length, hlt] at h
  exact h

theorem cut_at (t : TypeId) (kl : IntKind) (ht : Tryz.prog.underlying t = some (.slice 5)) (g n c m : Nat) (hm : m < n) (hc : n ≤ c) (W : World) :
    (Instr.slice t (.slice (some ⟨g, 0, none⟩) n c) (some (.int kl (m : Int))) none none).run Tryz.prog W = .ok (.slice (some ⟨g, m, none⟩) (n - m) (c - m)) W := by
  obtain ⟨i, hi, _, hs, _⟩ := info_parts info_u8
  have hel : Tryz.prog.elem t = 5 := by simp [Program.elem, ht]
  have hu : Tryz.prog.underlying t = some (.slice (Tryz.prog.elem t)) := by rw [hel]; exact ht
  rw [run_slice_l W t _ n c hu kl (m : Int) (Int.natCast_nonneg _) (by omega), hel]
  have hne : ¬ c = m := by omega
  simp [sizeOf, typeInfo, hi, hs, sliced, Result.andThen, hne, add_plain]

/-- Below, with stores from there on. -/
theorem belB_set {B : Nat} {w W : World} (h : Below B w W) {p : Addr} (hp : B ≤ p.block) (u : Value) : Below B w (W.setCell p u) := h.setCell hp u
theorem belB_setCells {B : Nat} {w : World} {g : Nat} (hg : B ≤ g) : ∀ (vs : List Value) (o : Nat) {W : World}, Below B w W → Below B w (W.setCells g o vs)
  | [], _, _, h => h
  | _ :: r, o, _, h => belB_setCells hg r (o + 1) (h.setCell hg _)
theorem blk_setCells_far {w : World} {g g' : Nat} {o : Obj} (hne : g ≠ g') : ∀ (vs : List Value) (k : Nat) {W : World}, W.heap[g]? = some o → (W.setCells g' k vs).heap[g]? = some o
  | [], _, _, h => h
  | _ :: r, k, _, h => blk_setCells_far (w := w) hne r (k + 1) (blk_far h hne _)
theorem bel_drewN' {B : Nat} {w W : World} (h : Below B w W) (n : Nat) : Below B w (W.drewN n) := ⟨h.os, h.tape, h.output, h.size, h.block⟩
theorem RdB.belowB {B : Nat} {w w1 : World} {ga o n c : Nat} {bs : List UInt8} (h : RdB w (some ⟨ga, o, none⟩) n c bs) (hb : Below B w w1) (hg : ga < B) : RdB w1 (some ⟨ga, o, none⟩) n c bs :=
  ⟨h.len, h.cap, h.most, fun h0 => by
    obtain ⟨g', o', e, hc⟩ := h.lies h0
    have e' := Option.some.inj e
    simp only [Addr.mk.injEq] at e'
    obtain ⟨rfl, rfl, _⟩ := e'
    exact ⟨ga, o, rfl, fun i hi => (World.cell?_of_block (a := ⟨ga, o + i, none⟩) (hb.block ga hg)).trans (hc i hi)⟩⟩
theorem RdB.far {w : World} {ga o n c : Nat} {bs : List UInt8} (h : RdB w (some ⟨ga, o, none⟩) n c bs) {p : Addr} (hne : ga ≠ p.block) {u : Value} : RdB (w.setCell p u) (some ⟨ga, o, none⟩) n c bs :=
  ⟨h.len, h.cap, h.most, fun h0 => by
    obtain ⟨g', o', e, hc⟩ := h.lies h0
    have e' := Option.some.inj e
    simp only [Addr.mk.injEq] at e'
    obtain ⟨rfl, rfl, _⟩ := e'
    exact ⟨ga, o, rfl, fun i hi => (World.cell?_of_block (a := ⟨ga, o + i, none⟩) (Below.heap_setCell w p u ga hne)).trans (hc i hi)⟩⟩
/-- What operations 0 to 9 of the copying region leave. -/
def rdR (g ga gd n c m i : Nat) (j : Nat) (v : Value) (_ : World) : Prop :=
  match j with
  | 0 => v = .slice (some ⟨gd, 0, none⟩) m m
  | 1 => v = .pointer (some ⟨g, 0, none⟩)
  | 2 => v = .pointer (some ⟨g, 0, none⟩)
  | 3 => v = .pointer (some ⟨g, 0, none⟩)
  | 4 => v = .slice (some ⟨ga, 0, none⟩) n c
  | 5 => v = .pointer (some ⟨g, 0, none⟩)
  | 6 => v = .pointer (some ⟨g, 0, none⟩)
  | 7 => v = .pointer (some ⟨g, 1, none⟩)
  | 8 => v = .int .i64 i
  | 9 => v = .slice (some ⟨ga, i, none⟩) (n - i) (c - i)
  | _ => True

set_option maxHeartbeats 4000000 in
set_option maxRecDepth 100000 in
/-- (*bytes.Reader).Read, where m bytes are there. -/
theorem read_calls (g ga gd n c m i : Nat) (q : Int) (bs : List UInt8) (w : World) (hg : RdrAt w g ga n c i q) (hr : RdB w (some ⟨ga, 0, none⟩) n c bs) (hag : ga < g) (hgd : g < gd)
    (hd : w.heap[gd]? = some (.cells (zeros m) 5 (0, 0))) (hm : 0 < m) (hmi : i + m ≤ n) (hn : n ≤ 4611686018427387904) :
    Calls Tryz.prog 224 #[.pointer (some ⟨g, 0, none⟩), .slice (some ⟨gd, 0, none⟩) m m] w fun e w' => (e = .returned (.tuple #[.int .i64 m, .nilIface]) ∧ RdrAt w' g ga n c (i + m) (-1) ∧ RdB w' (some ⟨gd, 0, none⟩) m m ((bs.drop i).take m)) ∧ Below g w w' := by
  have c0 := blk_cell hg 0
  have c1 := blk_cell hg 1
  have c2 := blk_cell hg 2
  have f2 := blk_frozen hg 2
  have q1 : decide ((n : Int) ≤ (i : Int)) = false := decide_eq_false (by omega)
  have HG := Kp.mk hg
  go_enter Tryz.func224, Tryz.ntmps224
  go_wp2_with fail
  go_quiet (fail)
  go_wp2_with fail
  generalize hW : (World.setCell _ ⟨g, 2, none⟩ _) = W3
  have hg3 : RdrAt W3 g ga n c i (-1) := by rw [← hW]; exact blk_set hg 2 _
  have hb3 : Below g w W3 := by rw [← hW]; exact belB_set (p := ⟨g, 2, none⟩) (bel_drewN' (Below.refl _ _) _) (Nat.le_refl _) _
  have hd3 : W3.heap[gd]? = some (.cells (zeros m) 5 (0, 0)) := by rw [← hW]; exact blk_far (p := ⟨g, 2, none⟩) hd (by show gd ≠ g; omega) _
  have HG3 := Kp.mk hg3
  have HB3 := Kp.mk hb3
  have HD3 := Kp.mk hd3
  have HR := Kp.mk (show RdB W3 (some ⟨ga, 0, none⟩) n c bs from hr.belowB hb3 hag)
  have HX := Kp.mk (And.intro hm (And.intro hmi (And.intro hn (And.intro hag hgd))))
  have hcc := hr.cap
  have HC := Kp.mk hcc
  clear c0 c1 c2 f2 q1 HG hg hr hd hm hmi hn hW hg3 hb3 hd3 hag hgd hcc
  refine wp_region_grow (by kernel_rfl) 10 (by decide) (apart_of (by kernel_rfl)) (by kernel_rfl) (rdR g ga gd n c m i) (fun _ _ _ _ => True) (fun _ _ _ _ h _ => by unfold rdR at *; exact h) ?_ ?_
  · intro j hj o ho vs w2 hb hpre
    rcases j with _ | _ | _ | _ | _ | _ | _ | _ | _ | _ | j
    · obtain rfl := Option.some.inj ho
      simp only [canon, List.range, List.range.loop, List.foldl]
      go_simp
      exact ⟨rfl, Below.refl _ _⟩
    · obtain rfl := Option.some.inj ho
      simp only [canon, List.range, List.range.loop, List.foldl]
      go_simp
      exact ⟨rfl, Below.refl _ _⟩
    · obtain rfl := Option.some.inj ho
      have e1 : vs 1 = _ := hpre 1 (by decide) rfl
      simp only [canon, List.range, List.range.loop, List.foldl]
      go_simp
      exact ⟨rfl, Below.refl _ _⟩
    · obtain rfl := Option.some.inj ho
      have e2 : vs 2 = _ := hpre 2 (by decide) rfl
      simp only [canon, List.range, List.range.loop, List.foldl]
      go_simp
      exact ⟨rfl, Below.refl _ _⟩
    · obtain rfl := Option.some.inj ho
      have e3 : vs 3 = _ := hpre 3 (by decide) rfl
      have hc := blk_keep HG3.out (bel_then (bel_drew (Below.refl _ _)) hb)
      have c0 := blk_cell hc 0
      have c1 := blk_cell hc 1
      simp only [canon, List.range, List.range.loop, List.foldl]
      go_simp
      exact ⟨rfl, Below.refl _ _⟩
    · obtain rfl := Option.some.inj ho
      simp only [canon, List.range, List.range.loop, List.foldl]
      go_simp
      exact ⟨rfl, Below.refl _ _⟩
    · obtain rfl := Option.some.inj ho
      have e5 : vs 5 = _ := hpre 5 (by decide) rfl
      simp only [canon, List.range, List.range.loop, List.foldl]
      go_simp
      exact ⟨rfl, Below.refl _ _⟩
    · obtain rfl := Option.some.inj ho
      have e6 : vs 6 = _ := hpre 6 (by decide) rfl
      simp only [canon, List.range, List.range.loop, List.foldl]
      go_simp
      exact ⟨rfl, Below.refl _ _⟩
    · obtain rfl := Option.some.inj ho
      have e7 : vs 7 = _ := hpre 7 (by decide) rfl
      have hc := blk_keep HG3.out (bel_then (bel_drew (Below.refl _ _)) hb)
      have c0 := blk_cell hc 0
      have c1 := blk_cell hc 1
      simp only [canon, List.range, List.range.loop, List.foldl]
      go_simp
      exact ⟨rfl, Below.refl _ _⟩
    · obtain rfl := Option.some.inj ho
      have e4 : vs 4 = _ := hpre 4 (by decide) rfl
      have e8 : vs 8 = _ := hpre 8 (by decide) rfl
      have hcut := cut_at 67 .i64 Tryz.underlying67 ga n c i (by have := HX.out; omega) HC.out
      simp only [canon, List.range, List.range.loop, List.foldl]
      go_simp
      exact ⟨rfl, Below.refl _ _⟩
    · omega
  · intro vs w2 hb hr hd
    have e0 : vs 0 = _ := hr 0 (by omega)
    have e9 : vs 9 = _ := hr 9 (by omega)
    obtain ⟨hm, hmi, hn, hag, hgd⟩ := HX.out
    have hb2 : Below W3.heap.size W3 w2 := bel_then (bel_drew (Below.refl _ _)) hb
    have hd2 := blk_keep HD3.out hb2
    have hcells : ∀ j, j < m → (w2.cell? ⟨gd, 0 + j, none⟩).isSome = true ∧ w2.frozen? ⟨gd, 0 + j, none⟩ = false := fun j hj => by
      have hz := zeros_at m j hj
      exact ⟨by rw [blk_cell hd2, Nat.zero_add, hz]; rfl, blk_frozen hd2 _⟩
    have hcut : RdB w2 (some ⟨ga, i, none⟩) (n - i) (c - i) (bs.drop i) := by
      have h := (HR.out.below hb2).drop i (by omega)
      have hcc := HC.out
      rw [if_neg (by omega)] at h
      simpa [add_plain] using h
    have hcopy := copy_take w2 gd 0 m m (c - i) (n - i) ga i (bs.drop i) hcut (by omega) (fun j hj => (hcells j hj).1) (fun j hj => (hcells j hj).2)
    have hput : RdB (w2.setCells gd 0 (Lib.byteCells ((bs.drop i).take m))) (some ⟨gd, 0, none⟩) m m ((bs.drop i).take m) := by
      have hl := hcut.len
      have hlt : ((bs.drop i).take m).length = m := by rw [List.length_take]; omega
      refine ⟨hlt, Nat.le_refl _, by omega, fun _ => ⟨_, _, rfl, fun k hk => ?_⟩⟩
      rw [World.cell?_setCells_in gd (Lib.byteCells ((bs.drop i).take m)) 0 _ (fun j hj => ?_) k (by rw [Lib.byteCells_length]; exact hk)]
      · simp [Lib.byteCells]
      · rw [Lib.byteCells_length, hlt] at hj; exact (hcells j hj).1
    have hg4 : RdrAt (w2.setCells gd 0 (Lib.byteCells ((bs.drop i).take m))) g ga n c i (-1) := blk_setCells_far (w := w2) (by omega) _ _ (blk_keep HG3.out hb2)
    have hb4 : Below g w (w2.setCells gd 0 (Lib.byteCells ((bs.drop i).take m))) := belB_setCells (by omega) _ _ (HB3.out.trans (hb2.mono (by have := (Array.getElem?_eq_some_iff.1 HG3.out).1; omega)))
    simp only [canon, List.range, List.range.loop, List.foldl]
    refine wpAny_last 10 (by kernel_rfl) ?_
    refine wpOp_go rfl rfl ?_
    go_simp
    generalize hW4 : w2.setCells gd 0 _ = W4 at *
    refine wpAny_last 11 (by kernel_rfl) ?_
    refine wpOp_go rfl rfl ?_
    go_simp
    refine wpAny_none (by kernel_rfl) ?_ _
    have c0 := blk_cell hg4 0
    have c1 := blk_cell hg4 1
    have c2 := blk_cell hg4 2
    have f1 := blk_frozen hg4 1
    have hsum : ((i : Int) + (m : Int)) = ((i + m : Nat) : Int) := by omega
    have hg5 : RdrAt (W4.setCell ⟨g, 1, none⟩ (.int .i64 ((i : Int) + m))) g ga n c (i + m) (-1) := by rw [hsum]; exact blk_set hg4 1 _
    have hb5 : Below g w (W4.setCell ⟨g, 1, none⟩ (.int .i64 ((i : Int) + m))) := belB_set (p := ⟨g, 1, none⟩) hb4 (Nat.le_refl _) _
    have hput5 : RdB (W4.setCell ⟨g, 1, none⟩ (.int .i64 ((i : Int) + m))) (some ⟨gd, 0, none⟩) m m ((bs.drop i).take m) := hput.far (p := ⟨g, 1, none⟩) (by show gd ≠ g; omega)
    have HE := Kp.mk (And.intro hg5 (And.intro hput5 hb5))
    clear hsum hg5 hb5 hput5 hput hg4 hb4 hcopy hcells hd2 hb2 hcut hr hd
    go_wp2_with fail
    go_ret2
    exact ⟨⟨rfl, HE.out.1, HE.out.2.1⟩, HE.out.2.2⟩

end Go.Proofs.YtkcpgcaccgahaaaGreatDoor
namespace Go.Proofs.YtkcpgcaccgahaaaGreatDoor
open Go.RowKit

/-- All old blocks but those of P stand as they stood. -/
structure Ex (P : Nat → Prop) (w w' : World) : Prop where
  os : w'.os = w.os
  tape : w'.tape = w.tape
  output : w'.output = w.output
  size : w.heap.size ≤ w'.heap.size
  block : ∀ k, k < w.heap.size → ¬ P k → w'.heap[k]? = w.heap[k]?
theorem Ex.refl (P : Nat → Prop) (w : World) : Ex P w w := ⟨rfl, rfl, rfl, Nat.le_refl _, fun _ _ _ => rfl⟩
theorem Ex.trans {P : Nat → Prop} {a b c : World} (h : Ex P a b) (k : Ex P b c) : Ex P a c :=
  ⟨k.os.trans h.os, k.tape.trans h.tape, k.output.trans h.output, Nat.le_trans h.size k.size, fun i hi hp => (k.block i (Nat.lt_of_lt_of_le hi h.size) hp).trans (h.block i hi hp)⟩
theorem Ex.of_below {P : Nat → Prop} {w w' : World} (h : Below w.heap.size w w') : Ex P w w' := ⟨h.os, h.tape, h.output, h.size, fun k hk _ => h.block k hk⟩
theorem Ex.mono {P Q : Nat → Prop} {w w' : World} (h : Ex P w w') (hp : ∀ k, P k → Q k) : Ex Q w w' := ⟨h.os, h.tape, h.output, h.size, fun k hk hq => h.block k hk (fun x => hq (hp k x))⟩
theorem Ex.toBelow {P : Nat → Prop} {w w' : World} (h : Ex P w w') {B : Nat} (hB : ∀ k, k < B → ¬ P k) (hs : B ≤ w.heap.size) : Below B w w' := ⟨h.os, h.tape, h.output, h.size, fun k hk => h.block k (by omega) (hB k hk)⟩
theorem Ex.setCell {P : Nat → Prop} {w W : World} (h : Ex P w W) {p : Addr} (hp : P p.block) (u : Value) : Ex P w (W.setCell p u) :=
  ⟨h.os, h.tape, h.output, by simpa [World.setCell] using h.size, fun k hk hq => (Below.heap_setCell W p u k (fun e => hq (by rw [e]; exact hp))).trans (h.block k hk hq)⟩
theorem Ex.setCells {P : Nat → Prop} {w : World} {g : Nat} (hg : P g) : ∀ (vs : List Value) (o : Nat) {W : World}, Ex P w W → Ex P w (W.setCells g o vs)
  | [], _, _, h => h
  | _ :: r, o, _, h => Ex.setCells hg r (o + 1) (h.setCell (p := ⟨g, o, none⟩) hg _)
theorem Ex.drewN {P : Nat → Prop} {w W : World} (h : Ex P w W) (n : Nat) : Ex P w (W.drewN n) := ⟨h.os, h.tape, h.output, h.size, h.block⟩
theorem Ex.keep {P : Nat → Prop} {w w' : World} (h : Ex P w w') {k : Nat} {o : Obj} (hk : w.heap[k]? = some o) (hp : ¬ P k) : w'.heap[k]? = some o := (h.block k (Array.getElem?_eq_some_iff.1 hk).1 hp).trans hk
theorem RdB.ex {P : Nat → Prop} {w w1 : World} {ga o n c : Nat} {bs : List UInt8} (h : RdB w (some ⟨ga, o, none⟩) n c bs) (hb : Ex P w w1) (hp : ¬ P ga) : RdB w1 (some ⟨ga, o, none⟩) n c bs :=
  ⟨h.len, h.cap, h.most, fun h0 => by
    obtain ⟨g', o', e, hc⟩ := h.lies h0
    have e' := Option.some.inj e
    simp only [Addr.mk.injEq] at e'
    obtain ⟨rfl, rfl, _⟩ := e'
    exact ⟨ga, o, rfl, fun i hi => (World.cell?_of_block (a := ⟨ga, o + i, none⟩) (hb.block ga (World.block_lt_of_cell? w _ (hc i hi)) hp)).trans (hc i hi)⟩⟩
theorem Ex.cell {P : Nat → Prop} {w w' : World} (h : Ex P w w') {a : Addr} {v : Value} (hc : w.cell? a = some v) (hp : ¬ P a.block) : w'.cell? a = some v := (World.cell?_of_block (h.block a.block (World.block_lt_of_cell? w a hc) hp)).trans hc
/-- A block of the call's own, made anew, does not count. -/
theorem Ex.new {P Q : Nat → Prop} {w W w2 : World} (h1 : Below w.heap.size w W) (h2 : Ex Q W w2) (hq : ∀ k, k < w.heap.size → Q k → P k) : Ex P w w2 :=
  ⟨h2.os.trans h1.os, h2.tape.trans h1.tape, h2.output.trans h1.output, Nat.le_trans h1.size h2.size, fun k hk hp => (h2.block k (Nat.lt_of_lt_of_le hk h1.size) (fun x => hp (hq k hk x))).trans (h1.block k hk)⟩

/-- Bytes do not lie in a block that holds none. -/
theorem RdB.exN {P : Nat → Prop} {w w1 : World} {A : Option Addr} {n c : Nat} {bs : List UInt8} (h : RdB w A n c bs) (hb : Ex P w w1) (hp : ∀ k, P k → ∃ cs t, w.heap[k]? = some (.cells cs t (0, 0)) ∧ ∀ (i : Nat) (x : Int), cs[i]? ≠ some (Value.int .u8 x)) : RdB w1 A n c bs :=
  ⟨h.len, h.cap, h.most, fun h0 => by
    obtain ⟨g', o', e, hc⟩ := h.lies h0
    refine ⟨g', o', e, fun i hi => (World.cell?_of_block (a := ⟨g', o' + i, none⟩) (hb.block g' (World.block_lt_of_cell? w _ (hc i hi)) fun hP => ?_)).trans (hc i hi)⟩
    obtain ⟨cs, t, hblk, hno⟩ := hp g' hP
    have h1 := hc i hi
    rw [blk_cell hblk (o' + i)] at h1
    exact hno _ _ h1⟩
theorem no_u8_5 {a b c : Int} {x y : ByteArray} (i : Nat) (z : Int) : (#[.int .u64 a, .int .u64 b, .int .u64 c, .string x, .string y] : Array Value)[i]? ≠ some (.int .u8 z) := by
  rcases i with _ | _ | _ | _ | _ | i <;> simp
theorem no_u8_1 {x : ByteArray} (i : Nat) (z : Int) : (#[.string x] : Array Value)[i]? ≠ some (.int .u8 z) := by
  rcases i with _ | i <;> simp


end Go.Proofs.YtkcpgcaccgahaaaGreatDoor
namespace Go.Proofs.YtkcpgcaccgahaaaGreatDoor
open Go.RowKit

set_option maxHeartbeats 2000000 in
set_option maxRecDepth 100000 in
/-- (*bytes.Reader).ReadByte where a byte is there. -/
theorem rdByte_calls (g ga n c i : Nat) (q : Int) (bs : List UInt8) (w : World) (hg : RdrAt w g ga n c i q) (hr : RdB w (some ⟨ga, 0, none⟩) n c bs) (hag : ga < g) (b : UInt8) (hb : bs[i]? = some b) (hn : n ≤ 4611686018427387904) :
    Calls Tryz.prog 226 #[.pointer (some ⟨g, 0, none⟩)] w fun e w' => e = .returned (.tuple #[.int .u8 (b.toNat : Int), .nilIface]) ∧ RdrAt w' g ga n c (i + 1) (-1) ∧ Ex (· = g) w w' := by
  have hil : i < bs.length := (List.getElem?_eq_some_iff.1 hb).1
  have hin : i < n := by have := hr.len; omega
  have c0 := blk_cell hg 0
  have c1 := blk_cell hg 1
  have c2 := blk_cell hg 2
  have f2 := blk_frozen hg 2
  have q1 : decide ((n : Int) ≤ (i : Int)) = false := decide_eq_false (by omega)
  have HG := Kp.mk hg
  have HR := Kp.mk (And.intro hr (And.intro hag (And.intro hb hil)))
  have hi62 : i < 4611686018427387904 := by omega
  clear hg hr hag hb hil hn
  go_enter Tryz.func226, Tryz.ntmps226
  go_wp2_with fail
  go_quiet (fail)
  go_wp2_with fail
  generalize hW : (World.setCell _ ⟨g, 2, none⟩ _) = W3
  have hg3 : RdrAt W3 g ga n c i (-1) := by rw [← hW]; exact blk_set HG.out 2 _
  have hb3 : Ex (· = g) w W3 := by rw [← hW]; exact Ex.setCell (P := (· = g)) (p := ⟨g, 2, none⟩) (Ex.refl _ _) rfl _
  have hr3 := HR.out.1.ex hb3 (Nat.ne_of_lt HR.out.2.1)
  obtain ⟨g', o', e, hcell⟩ := hr3.lies (by omega)
  have e' := Option.some.inj e
  simp only [Addr.mk.injEq] at e'
  obtain ⟨rfl, rfl, _⟩ := e'
  have hci := hcell i HR.out.2.2.2
  rw [Nat.zero_add] at hci
  rw [show (bs[i]'HR.out.2.2.2) = b from Option.some.inj ((List.getElem?_eq_getElem HR.out.2.2.2).symm.trans HR.out.2.2.1)] at hci
  have HG3 := Kp.mk hg3
  have HB3 := Kp.mk hb3
  clear c0 c1 c2 f2 hW hg3 hb3 hr3 hcell e HG
  have c0 := blk_cell HG3.out 0
  have c1 := blk_cell HG3.out 1
  have f1 := blk_frozen HG3.out 1
  go_quiet (fail)
  go_wp2_with fail
  go_ret2
  refine ⟨rfl, ?_, ?_⟩
  · have := blk_set HG3.out 1 (.int .i64 ((i : Int) + 1))
    rw [show ((i : Int) + 1) = ((i + 1 : Nat) : Int) by omega] at this ⊢
    exact this
  · exact Ex.setCell (P := (· = g)) (p := ⟨g, 1, none⟩) (HB3.out.drewN _) rfl _

set_option maxHeartbeats 2000000 in
set_option maxRecDepth 100000 in
/-- (*bytes.Reader).ReadByte at the end. -/
theorem rdByteEnd_calls (g ga n c i : Nat) (q : Int) (v : Value) (w : World) (hg : RdrAt w g ga n c i q) (hi : n ≤ i) (hv : w.cell? ⟨0, 0, none⟩ = some v) (hlt : 0 < g) :
    Calls Tryz.prog 226 #[.pointer (some ⟨g, 0, none⟩)] w fun e w' => e = .returned (.tuple #[.int .u8 0, v]) ∧ RdrAt w' g ga n c i (-1) ∧ Ex (· = g) w w' := by
  have c0 := blk_cell hg 0
  have c1 := blk_cell hg 1
  have c2 := blk_cell hg 2
  have f2 := blk_frozen hg 2
  have q1 : decide ((n : Int) ≤ (i : Int)) = true := decide_eq_true (by omega)
  have HG := Kp.mk hg
  have HV := Kp.mk hv
  clear hg hv
  go_enter Tryz.func226, Tryz.ntmps226
  go_wp2_with fail
  go_quiet (fail)
  go_wp2_with fail
  generalize hW : (World.setCell _ ⟨g, 2, none⟩ _) = W3
  have hg3 : RdrAt W3 g ga n c i (-1) := by rw [← hW]; exact blk_set HG.out 2 _
  have hb3 : Ex (· = g) w W3 := by rw [← hW]; exact Ex.setCell (P := (· = g)) (p := ⟨g, 2, none⟩) (Ex.refl _ _) rfl _
  have hv3 : W3.cell? ⟨0, 0, none⟩ = some v := hb3.cell HV.out (Nat.ne_of_lt hlt)
  have HG3 := Kp.mk hg3
  have HB3 := Kp.mk hb3
  clear c0 c1 c2 f2 hW hg3 hb3 HG
  go_quiet (fail)
  go_wp2_with fail
  go_ret2
  exact ⟨rfl, HG3.out, (HB3.out.drewN _).drewN _⟩

end Go.Proofs.YtkcpgcaccgahaaaGreatDoor
namespace Go.Proofs.YtkcpgcaccgahaaaGreatDoor
open Go.RowKit

theorem copy_min (W : World) (g o m cm c' kk k ga oa : Nat) (bs : List UInt8) (hr : RdB W (some ⟨ga, oa, none⟩) kk c' bs) (hk : k = min m kk) (h0 : 0 < k) (hc : ∀ j, j < k → (W.cell? ⟨g, o + j, none⟩).isSome = true) (hf : ∀ j, j < k → W.frozen? ⟨g, o + j, none⟩ = false) :
    (Builtin.copy_ #[67, 67] 3 #[.slice (some ⟨g, o, none⟩) m cm, .slice (some ⟨ga, oa, none⟩) kk c']).run Tryz.prog W = .ok (goInt k) (W.setCells g o (Lib.byteCells (bs.take k))) := by
  have hl := hr.len
  have hlt : (bs.take k).length = k := by rw [List.length_take]; omega
  have h := run_copy_cells (P := Tryz.prog) W 67 67 3 5 g o m cm ⟨ga, oa, none⟩ kk c' (Lib.byteCells (bs.take k)) Tryz.underlying67 (by kernel_rfl) (by rw [Lib.byteCells_length, hlt, hk]; exact Nat.min_comm _ _)
    (fun j v hj => by
      have hjl : j < (bs.take k).length := by
        have := (List.getElem?_eq_some_iff.1 hj).1
        rwa [Lib.byteCells_length] at this
      obtain ⟨g', o', e, hcell⟩ := hr.lies (by omega)
      have e' := Option.some.inj e
      simp only [Addr.mk.injEq] at e'
      obtain ⟨rfl, rfl, _⟩ := e'
      rw [add_plain, hcell j (by omega)]
      rw [Lib.byteCells, List.getElem?_map, List.getElem?_eq_getElem hjl, List.getElem_take] at hj
      exact hj)
    (fun j hj => hc j (by rw [Lib.byteCells_length] at hj; omega)) (fun j hj => hf j (by rw [Lib.byteCells_length] at hj; omega)) (fun v hv => by
      simp only [Lib.byteCells, List.mem_map] at hv
      obtain ⟨b, _, rfl⟩ := hv
      rfl)
  rw [Lib.byteCells_length, hlt] at h
  exact h

/-- What a row of cells reads as behind a writing. -/
theorem putLs_size : ∀ (vs : List Value) (o : Nat) (cs : Array Value), (putLs cs o vs).size = cs.size
  | [], _, _ => rfl
  | v :: r, o, cs => by rw [putLs, putLs_size r (o + 1)]; simp
theorem putLs_get : ∀ (vs : List Value) (o : Nat) (cs : Array Value) (j : Nat), o + vs.length ≤ cs.size → (putLs cs o vs)[j]? = if o ≤ j ∧ j < o + vs.length then vs[j - o]? else cs[j]?
  | [], o, cs, j, _ => by rw [putLs, if_neg (by simp)]
  | v :: r, o, cs, j, h => by
    simp only [List.length_cons] at h ⊢
    rw [putLs, putLs_get r (o + 1) _ j (by simp; omega)]
    by_cases h1 : o + 1 ≤ j ∧ j < o + 1 + r.length
    · rw [if_pos h1, if_pos (by omega), show j - o = (j - (o + 1)) + 1 by omega, List.getElem?_cons_succ]
    · rw [if_neg h1, Array.getElem?_setIfInBounds]
      by_cases h2 : o = j
      · subst h2
        rw [if_pos rfl, if_pos (by omega), if_pos (by omega), Nat.sub_self]; rfl
      · rw [if_neg h2, if_neg (by omega)]
theorem blk_setCells {g : Nat} {t : TypeId} : ∀ (vs : List Value) (o : Nat) (cs : Array Value) {w : World}, w.heap[g]? = some (.cells cs t (0, 0)) → (w.setCells g o vs).heap[g]? = some (.cells (putLs cs o vs) t (0, 0))
  | [], _, _, _, h => h
  | v :: r, o, cs, _, h => blk_setCells r (o + 1) (cs.setIfInBounds o v) (blk_set h o v)
theorem rd_put {w : World} {g o cm : Nat} {t : TypeId} {cs : Array Value} {xs : List UInt8} (h : w.heap[g]? = some (.cells (putLs cs o (Lib.byteCells xs)) t (0, 0))) (hs : o + xs.length ≤ cs.size) (hl : xs.length ≤ cm) (hc : cm ≤ 9223372036854775807) : RdB w (some ⟨g, o, none⟩) xs.length cm xs := by
  refine ⟨rfl, hl, hc, fun _ => ⟨g, o, rfl, fun i hi => ?_⟩⟩
  rw [blk_cell h, putLs_get _ _ _ _ (by rw [Lib.byteCells_length]; exact hs), Lib.byteCells_length, if_pos (by omega), show o + i - o = i by omega]
  simp [Lib.byteCells, hi]

/-- What operations 0 to 9 of the copying region leave. -/
def rdG (g ga gd n c o m cm i : Nat) (j : Nat) (v : Value) (_ : World) : Prop :=
  match j with
  | 0 => v = .slice (some ⟨gd, o, none⟩) m cm
  | 1 => v = .pointer (some ⟨g, 0, none⟩)
  | 2 => v = .pointer (some ⟨g, 0, none⟩)
  | 3 => v = .pointer (some ⟨g, 0, none⟩)
  | 4 => v = .slice (some ⟨ga, 0, none⟩) n c
  | 5 => v = .pointer (some ⟨g, 0, none⟩)
  | 6 => v = .pointer (some ⟨g, 0, none⟩)
  | 7 => v = .pointer (some ⟨g, 1, none⟩)
  | 8 => v = .int .i64 i
  | 9 => v = .slice (some ⟨ga, i, none⟩) (n - i) (c - i)
  | _ => True

set_option maxHeartbeats 4000000 in
set_option maxRecDepth 100000 in
/-- (*bytes.Reader).Read, where k bytes are there. -/
theorem readN_calls {tt : TypeId} (g ga gd n c o m cm k i : Nat) (q : Int) (bs : List UInt8) (cs : Array Value) (w : World) (hg : RdrAt w g ga n c i q) (hr : RdB w (some ⟨ga, 0, none⟩) n c bs) (hag : ga < g) (hgd : g ≠ gd ∧ ga ≠ gd)
    (hd : w.heap[gd]? = some (.cells cs tt (0, 0))) (hos : o + m ≤ cs.size) (hm : 0 < k) (hkm : k ≤ m) (hmi : i + k ≤ n) (hk : k = m ∨ i + k = n) (hm63 : m ≤ 9223372036854775807) (hn : n ≤ 4611686018427387904) :
    Calls Tryz.prog 224 #[.pointer (some ⟨g, 0, none⟩), .slice (some ⟨gd, o, none⟩) m cm] w fun e w' => (e = .returned (.tuple #[.int .i64 k, .nilIface]) ∧ RdrAt w' g ga n c (i + k) (-1) ∧ w'.heap[gd]? = some (.cells (putLs cs o (Lib.byteCells ((bs.drop i).take k))) tt (0, 0))) ∧ Ex (fun k => k = g ∨ k = gd) w w' := by
  have c0 := blk_cell hg 0
  have c1 := blk_cell hg 1
  have c2 := blk_cell hg 2
  have f2 := blk_frozen hg 2
  have q1 : decide ((n : Int) ≤ (i : Int)) = false := decide_eq_false (by omega)
  have HG := Kp.mk hg
  go_enter Tryz.func224, Tryz.ntmps224
  go_wp2_with fail
  go_quiet (fail)
  go_wp2_with fail
  generalize hW : (World.setCell _ ⟨g, 2, none⟩ _) = W3
  have hg3 : RdrAt W3 g ga n c i (-1) := by rw [← hW]; exact blk_set hg 2 _
  have hb3 : Ex (fun k => k = g ∨ k = gd) w W3 := by rw [← hW]; exact Ex.setCell (P := fun k => k = g ∨ k = gd) (p := ⟨g, 2, none⟩) ((Ex.refl _ _).drewN _) (.inl rfl) _
  have hd3 : W3.heap[gd]? = some (.cells cs tt (0, 0)) := by rw [← hW]; exact blk_far (p := ⟨g, 2, none⟩) hd (by show gd ≠ g; omega) _
  have HG3 := Kp.mk hg3
  have HB3 := Kp.mk hb3
  have HD3 := Kp.mk hd3
  have HR := Kp.mk (show RdB W3 (some ⟨ga, 0, none⟩) n c bs from hr.ex hb3 (by omega))
  have HX := Kp.mk (And.intro hm (And.intro hmi (And.intro hn (And.intro hag (And.intro hgd (And.intro hkm (And.intro hk (And.intro hm63 hos))))))))
  have hcc := hr.cap
  have HC := Kp.mk hcc
  clear c0 c1 c2 f2 q1 HG hg hr hd hm hmi hn hW hg3 hb3 hd3 hag hgd hcc hkm hk hm63 hos
  refine wp_region_grow (by kernel_rfl) 10 (by decide) (apart_of (by kernel_rfl)) (by kernel_rfl) (rdG g ga gd n c o m cm i) (fun _ _ _ _ => True) (fun _ _ _ _ h _ => by unfold rdG at *; exact h) ?_ ?_
  · intro j hj ob ho vs w2 hb hpre
    rcases j with _ | _ | _ | _ | _ | _ | _ | _ | _ | _ | j
    · obtain rfl := Option.some.inj ho
      simp only [canon, List.range, List.range.loop, List.foldl]
      go_simp
      exact ⟨rfl, Below.refl _ _⟩
    · obtain rfl := Option.some.inj ho
      simp only [canon, List.range, List.range.loop, List.foldl]
      go_simp
      exact ⟨rfl, Below.refl _ _⟩
    · obtain rfl := Option.some.inj ho
      have e1 : vs 1 = _ := hpre 1 (by decide) rfl
      simp only [canon, List.range, List.range.loop, List.foldl]
      go_simp
      exact ⟨rfl, Below.refl _ _⟩
    · obtain rfl := Option.some.inj ho
      have e2 : vs 2 = _ := hpre 2 (by decide) rfl
      simp only [canon, List.range, List.range.loop, List.foldl]
      go_simp
      exact ⟨rfl, Below.refl _ _⟩
    · obtain rfl := Option.some.inj ho
      have e3 : vs 3 = _ := hpre 3 (by decide) rfl
      have hc := blk_keep HG3.out (bel_then (bel_drew (Below.refl _ _)) hb)
      have c0 := blk_cell hc 0
      have c1 := blk_cell hc 1
      simp only [canon, List.range, List.range.loop, List.foldl]
      go_simp
      exact ⟨rfl, Below.refl _ _⟩
    · obtain rfl := Option.some.inj ho
      simp only [canon, List.range, List.range.loop, List.foldl]
      go_simp
      exact ⟨rfl, Below.refl _ _⟩
    · obtain rfl := Option.some.inj ho
      have e5 : vs 5 = _ := hpre 5 (by decide) rfl
      simp only [canon, List.range, List.range.loop, List.foldl]
      go_simp
      exact ⟨rfl, Below.refl _ _⟩
    · obtain rfl := Option.some.inj ho
      have e6 : vs 6 = _ := hpre 6 (by decide) rfl
      simp only [canon, List.range, List.range.loop, List.foldl]
      go_simp
      exact ⟨rfl, Below.refl _ _⟩
    · obtain rfl := Option.some.inj ho
      have e7 : vs 7 = _ := hpre 7 (by decide) rfl
      have hc := blk_keep HG3.out (bel_then (bel_drew (Below.refl _ _)) hb)
      have c0 := blk_cell hc 0
      have c1 := blk_cell hc 1
      simp only [canon, List.range, List.range.loop, List.foldl]
      go_simp
      exact ⟨rfl, Below.refl _ _⟩
    · obtain rfl := Option.some.inj ho
      have e4 : vs 4 = _ := hpre 4 (by decide) rfl
      have e8 : vs 8 = _ := hpre 8 (by decide) rfl
      have hcut := cut_at 67 .i64 Tryz.underlying67 ga n c i (by have := HX.out; omega) HC.out
      simp only [canon, List.range, List.range.loop, List.foldl]
      go_simp
      exact ⟨rfl, Below.refl _ _⟩
    · omega
  · intro vs w2 hb hr hd
    have e0 : vs 0 = _ := hr 0 (by omega)
    have e9 : vs 9 = _ := hr 9 (by omega)
    obtain ⟨hm, hmi, hn, hag, hgd, hkm, hk, hm63, hos⟩ := HX.out
    have hb2 : Below W3.heap.size W3 w2 := bel_then (bel_drew (Below.refl _ _)) hb
    have hd2 := blk_keep HD3.out hb2
    have hcells : ∀ j, j < m → (w2.cell? ⟨gd, o + j, none⟩).isSome = true ∧ w2.frozen? ⟨gd, o + j, none⟩ = false := fun j hj => by
      exact ⟨by rw [blk_cell hd2, Array.getElem?_eq_getElem (by omega)]; rfl, blk_frozen hd2 _⟩
    have hcut : RdB w2 (some ⟨ga, i, none⟩) (n - i) (c - i) (bs.drop i) := by
      have h := (HR.out.below hb2).drop i (by omega)
      have hcc := HC.out
      rw [if_neg (by omega)] at h
      simpa [add_plain] using h
    have hcopy := copy_min w2 gd o m cm (c - i) (n - i) k ga i (bs.drop i) hcut (by omega) hm (fun j hj => (hcells j (by omega)).1) (fun j hj => (hcells j (by omega)).2)
    have hput := blk_setCells (Lib.byteCells ((bs.drop i).take k)) o cs hd2
    have hg4 : RdrAt (w2.setCells gd o (Lib.byteCells ((bs.drop i).take k))) g ga n c i (-1) := blk_setCells_far (w := w2) (by omega) _ _ (blk_keep HG3.out hb2)
    have hb4 : Ex (fun k => k = g ∨ k = gd) w (w2.setCells gd o (Lib.byteCells ((bs.drop i).take k))) := Ex.setCells (P := fun k => k = g ∨ k = gd) (.inr rfl) _ _ (HB3.out.trans (Ex.of_below hb2))
    simp only [canon, List.range, List.range.loop, List.foldl]
    refine wpAny_last 10 (by kernel_rfl) ?_
    refine wpOp_go rfl rfl ?_
    go_simp
    generalize hW4 : w2.setCells gd o _ = W4 at *
    refine wpAny_last 11 (by kernel_rfl) ?_
    refine wpOp_go rfl rfl ?_
    go_simp
    refine wpAny_none (by kernel_rfl) ?_ _
    have c0 := blk_cell hg4 0
    have c1 := blk_cell hg4 1
    have c2 := blk_cell hg4 2
    have f1 := blk_frozen hg4 1
    have hsum : ((i : Int) + (k : Int)) = ((i + k : Nat) : Int) := by omega
    have hg5 : RdrAt (W4.setCell ⟨g, 1, none⟩ (.int .i64 ((i : Int) + k))) g ga n c (i + k) (-1) := by rw [hsum]; exact blk_set hg4 1 _
    have hb5 : Ex (fun k => k = g ∨ k = gd) w (W4.setCell ⟨g, 1, none⟩ (.int .i64 ((i : Int) + k))) := Ex.setCell (P := fun k => k = g ∨ k = gd) (p := ⟨g, 1, none⟩) hb4 (.inl rfl) _
    have hput5 : (W4.setCell ⟨g, 1, none⟩ (.int .i64 ((i : Int) + k))).heap[gd]? = some (.cells (putLs cs o (Lib.byteCells ((bs.drop i).take k))) tt (0, 0)) := blk_far (p := ⟨g, 1, none⟩) hput (by show gd ≠ g; omega) _
    have HE := Kp.mk (And.intro hg5 (And.intro hput5 hb5))
    clear hsum hg5 hb5 hput5 hput hg4 hb4 hcopy hcells hd2 hb2 hcut hr hd
    go_wp2_with fail
    go_ret2
    exact ⟨⟨rfl, HE.out.1, HE.out.2.1⟩, HE.out.2.2⟩

theorem readG_calls {tt : TypeId} (g ga gd n c o m cm k i : Nat) (q : Int) (bs : List UInt8) (cs : Array Value) (w : World) (hg : RdrAt w g ga n c i q) (hr : RdB w (some ⟨ga, 0, none⟩) n c bs) (hag : ga < g) (hgd : g < gd)
    (hd : w.heap[gd]? = some (.cells cs tt (0, 0))) (hos : o + m ≤ cs.size) (hm : 0 < k) (hkm : k ≤ m) (hmi : i + k ≤ n) (hk : k = m ∨ i + k = n) (hm63 : m ≤ 4611686018427387904) (hn : n ≤ 4611686018427387904) :
    Calls Tryz.prog 224 #[.pointer (some ⟨g, 0, none⟩), .slice (some ⟨gd, o, none⟩) m cm] w fun e w' => (e = .returned (.tuple #[.int .i64 k, .nilIface]) ∧ RdrAt w' g ga n c (i + k) (-1) ∧ w'.heap[gd]? = some (.cells (putLs cs o (Lib.byteCells ((bs.drop i).take k))) tt (0, 0))) ∧ Ex (fun k => k = g ∨ k = gd) w w' :=
  readN_calls g ga gd n c o m cm k i q bs cs w hg hr hag ⟨by omega, by omega⟩ hd hos hm hkm hmi hk (by omega) hn

set_option maxHeartbeats 2000000 in
set_option maxRecDepth 100000 in
/-- (*bytes.Reader).Read at the end. -/
theorem readEnd_calls (g ga n c i : Nat) (q : Int) (A : Option Addr) (m cm : Nat) (v : Value) (w : World) (hg : RdrAt w g ga n c i q) (hi : n ≤ i) (hv : w.cell? ⟨0, 0, none⟩ = some v) :
    Calls Tryz.prog 224 #[.pointer (some ⟨g, 0, none⟩), .slice A m cm] w fun e w' => e = .returned (.tuple #[.int .i64 0, v]) ∧ RdrAt w' g ga n c i q ∧ Below w.heap.size w w' := by
  have c0 := blk_cell hg 0
  have c1 := blk_cell hg 1
  have q1 : decide ((n : Int) ≤ (i : Int)) = true := decide_eq_true (by omega)
  have HG := Kp.mk hg
  clear hg
  go_enter Tryz.func224, Tryz.ntmps224
  go_wp2_with fail
  go_quiet (fail)
  go_wp2_with fail
  go_quiet (fail)
  go_wp2_with fail
  go_ret2
  exact ⟨rfl, HG.out, bel_drewN (bel_drewN (Below.refl _ _) _) _⟩

end Go.Proofs.YtkcpgcaccgahaaaGreatDoor
