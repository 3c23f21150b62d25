/- Some texts in one: Rdr, Ex, RdByte, RdrG. -/
import Derived.Test.YtnhnkfdhkifahaaGreatDoorMhEnc
import Derived.Test.YtnhnkfdhkifahaaGreatDoorGrowA
namespace Go.Proofs.YtnhnkfdhkifahaaGreatDoor
open Go.RowKit





theorem copy_take (W : World) (g o n c c' k ga oa : Nat) (bs : List UInt8) (hr : RdB W (some ⟨ga, oa, none⟩) k c' bs) (hk : n ≤ k) (hc : ∀ j, j < n → (W.cell? ⟨g, o + j, none⟩).isSome = true) (hf : ∀ j, j < n → W.frozen? ⟨g, o + j, none⟩ = false) :
    (Builtin.copy_ #[33, 33] 3 #[.slice (some ⟨g, o, none⟩) n c, .slice (some ⟨ga, oa, none⟩) k c']).run Tryz.prog W = .ok (goInt n) (W.setCells g o (Lib.byteCells (bs.take n))) := by
  have hl := hr.len
  have hlt : (bs.take n).length = n := by rw [List.length_take]; omega
  have h := run_copy_cells (P := Tryz.prog) W 33 33 3 5 g o n c ⟨ga, oa, none⟩ k c' (Lib.byteCells (bs.take n)) Tryz.underlying33 (by kernel_rfl) (by rw [Lib.byteCells_length, hlt]; exact (Nat.min_eq_right hk).symm)
    (fun j v hj => by
      have hjl : j < (bs.take n).length := by
        have := (List.getElem?_eq_some_iff.1 hj).1
        rwa [Lib.byteCells_length] at this
      obtain ⟨g', o', e, hcell⟩ := hr.lies (by omega)
      have e' := Option.some.inj e
      simp only [Addr.mk.injEq] at e'
      obtain ⟨rfl, rfl, _⟩ := e'
      rw [add_plain, hcell j (by omega)]
      rw [Lib.byteCells, List.getElem?_map, List.getElem?_eq_getElem hjl, List.getElem_take] at hj
      exact hj)
    (fun j hj => hc j (by rw [Lib.byteCells_length] at hj; omega)) (fun j hj => hf j (by rw [Lib.byteCells_length] at hj; omega)) (fun v hv => by
      simp only [Lib.byteCells, List.mem_map] at hv
      obtain ⟨b, _, rfl⟩ := hv
      rfl)
  rw [Lib.byteCells_length, hlt] at h
  exact h

theorem cut_at (t : TypeId) (kl : IntKind) (ht : Tryz.prog.underlying t = some (.slice 5)) (g n c m : Nat) (hm : m < n) (hc : n ≤ c) (W : World) :
    (Instr.slice t (.slice (some ⟨g, 0, none⟩) n c) (some (.int kl (m : Int))) none none).run Tryz.prog W = .ok (.slice (some ⟨g, m, none⟩) (n - m) (c - m)) W := by
  obtain ⟨i, hi, _, hs, _⟩ := info_parts info_u8
  have hel : Tryz.prog.elem t = 5 := by simp [Program.elem, ht]
  have hu : Tryz.prog.underlying t = some (.slice (Tryz.prog.elem t)) := by rw [hel]; exact ht
  rw [run_slice_l W t _ n c hu kl (m : Int) (Int.natCast_nonneg _) (by omega), hel]
  have hne : ¬ c = m := by omega
  simp [sizeOf, typeInfo, hi, hs, sliced, Result.andThen, hne, add_plain]

/-- Below, with stores from there on. -/
theorem belB_set {B : Nat} {w W : World} (h : Below B w W) {p : Addr} (hp : B ≤ p.block) (u : Value) : Below B w (W.setCell p u) := h.setCell hp u
theorem belB_setCells {B : Nat} {w : World} {g : Nat} (hg : B ≤ g) : ∀ (vs : List Value) (o : Nat) {W : World}, Below B w W → Below B w (W.setCells g o vs)
  | [], _, _, h => h
  | _ :: r, o, _, h => belB_setCells hg r (o + 1) (h.setCell hg _)
theorem blk_setCells_far {w : World} {g g' : Nat} {o : Obj} (hne : g ≠ g') : ∀ (vs : List Value) (k : Nat) {W : World}, W.heap[g]? = some o → (W.setCells g' k vs).heap[g]? = some o
  | [], _, _, h => h
  | _ :: r, k, _, h => blk_setCells_far (w := w) hne r (k + 1) (blk_far h hne _)
theorem bel_drewN' {B : Nat} {w W : World} (h : Below B w W) (n : Nat) : Below B w (W.drewN n) := ⟨h.os, h.tape, h.output, h.size, h.block⟩
theorem RdB.belowB {B : Nat} {w w1 : World} {ga o n c : Nat} {bs : List UInt8} (h : RdB w (some ⟨ga, o, none⟩) n c bs) (hb : Below B w w1) (hg : ga < B) : RdB w1 (some ⟨ga, o, none⟩) n c bs :=
  ⟨h.len, h.cap, h.most, fun h0 => by
    obtain ⟨g', o', e, hc⟩ := h.lies h0
    have e' := Option.some.inj e
    simp only [Addr.mk.injEq] at e'
    obtain ⟨rfl, rfl, _⟩ := e'
    exact ⟨ga, o, rfl, fun i hi => (World.cell?_of_block (a := ⟨ga, o + i, none⟩) (hb.block ga hg)).trans (hc i hi)⟩⟩
theorem RdB.far {w : World} {ga o n c : Nat} {bs : List UInt8} (h : RdB w (some ⟨ga, o, none⟩) n c bs) {p : Addr} (hne : ga ≠ p.block) {u : Value} : RdB (w.setCell p u) (some ⟨ga, o, none⟩) n c bs :=
  ⟨h.len, h.cap, h.most, fun h0 => by
    obtain ⟨g', o', e, hc⟩ := h.lies h0
    have e' := Option.some.inj e
    simp only [Addr.mk.injEq] at e'
    obtain ⟨rfl, rfl, _⟩ := e'
    exact ⟨ga, o, rfl, fun i hi => (World.cell?_of_block (a := ⟨ga, o + i, none⟩) (Below.heap_setCell w p u ga hne)).trans (hc i hi)⟩⟩
/-- What operations 0 to 9 of the copying region leave. -/
def rdR (g ga gd n c m i : Nat) (j : Nat) (v : Value) (_ : World) : Prop :=
  match j with
  | 0 => v = .slice (some ⟨gd, 0, none⟩) m m
  | 1 => v = .pointer (some ⟨g, 0, none⟩)
  | 2 => v = .pointer (some ⟨g, 0, none⟩)
  | 3 => v = .pointer (some ⟨g, 0, none⟩)
  | 4 => v = .slice (some ⟨ga, 0, none⟩) n c
  | 5 => v = .pointer (some ⟨g, 0, none⟩)
  | 6 => v = .pointer (some ⟨g, 0, none⟩)
  | 7 => v = .pointer (some ⟨g, 1, none⟩)
  | 8 => v = .int .i64 i
  | 9 => v = .slice (some ⟨ga, i, none⟩) (n - i) (c - i)
  | _ => True







































































































































end Go.Proofs.YtnhnkfdhkifahaaGreatDoor
namespace Go.Proofs.YtnhnkfdhkifahaaGreatDoor
open Go.RowKit

/-- All old blocks but those of P stand as they stood. -/
structure Ex (P : Nat → Prop) (w w' : World) : Prop where
  os : w'.os = w.os
  tape : w'.tape = w.tape
  output : w'.output = w.output
  size : w.heap.size ≤ w'.heap.size
  block : ∀ k, k < w.heap.size → ¬ P k → w'.heap[k]? = w.heap[k]?
theorem Ex.refl (P : Nat → Prop) (w : World) : Ex P w w := ⟨rfl, rfl, rfl, Nat.le_refl _, fun _ _ _ => rfl⟩
theorem Ex.trans {P : Nat → Prop} {a b c : World} (h : Ex P a b) (k : Ex P b c) : Ex P a c :=
  ⟨k.os.trans h.os, k.tape.trans h.tape, k.output.trans h.output, Nat.le_trans h.size k.size, fun i hi hp => (k.block i (Nat.lt_of_lt_of_le hi h.size) hp).trans (h.block i hi hp)⟩
theorem Ex.of_below {P : Nat → Prop} {w w' : World} (h : Below w.heap.size w w') : Ex P w w' := ⟨h.os, h.tape, h.output, h.size, fun k hk _ => h.block k hk⟩
theorem Ex.mono {P Q : Nat → Prop} {w w' : World} (h : Ex P w w') (hp : ∀ k, P k → Q k) : Ex Q w w' := ⟨h.os, h.tape, h.output, h.size, fun k hk hq => h.block k hk (fun x => hq (hp k x))⟩
theorem Ex.toBelow {P : Nat → Prop} {w w' : World} (h : Ex P w w') {B : Nat} (hB : ∀ k, k < B → ¬ P k) (hs : B ≤ w.heap.size) : Below B w w' := ⟨h.os, h.tape, h.output, h.size, fun k hk => h.block k (by omega) (hB k hk)⟩
theorem Ex.setCell {P : Nat → Prop} {w W : World} (h : Ex P w W) {p : Addr} (hp : P p.block) (u : Value) : Ex P w (W.setCell p u) :=
  ⟨h.os, h.tape, h.output, by simpa [World.setCell] using h.size, fun k hk hq => (Below.heap_setCell W p u k (fun e => hq (by rw [e]; exact hp))).trans (h.block k hk hq)⟩
theorem Ex.setCells {P : Nat → Prop} {w : World} {g : Nat} (hg : P g) : ∀ (vs : List Value) (o : Nat) {W : World}, Ex P w W → Ex P w (W.setCells g o vs)
  | [], _, _, h => h
  | _ :: r, o, _, h => Ex.setCells hg r (o + 1) (h.setCell (p := ⟨g, o, none⟩) hg _)
theorem Ex.drewN {P : Nat → Prop} {w W : World} (h : Ex P w W) (n : Nat) : Ex P w (W.drewN n) := ⟨h.os, h.tape, h.output, h.size, h.block⟩
theorem Ex.keep {P : Nat → Prop} {w w' : World} (h : Ex P w w') {k : Nat} {o : Obj} (hk : w.heap[k]? = some o) (hp : ¬ P k) : w'.heap[k]? = some o := (h.block k (Array.getElem?_eq_some_iff.1 hk).1 hp).trans hk
theorem RdB.ex {P : Nat → Prop} {w w1 : World} {ga o n c : Nat} {bs : List UInt8} (h : RdB w (some ⟨ga, o, none⟩) n c bs) (hb : Ex P w w1) (hp : ¬ P ga) : RdB w1 (some ⟨ga, o, none⟩) n c bs :=
  ⟨h.len, h.cap, h.most, fun h0 => by
    obtain ⟨g', o', e, hc⟩ := h.lies h0
    have e' := Option.some.inj e
    simp only [Addr.mk.injEq] at e'
    obtain ⟨rfl, rfl, _⟩ := e'
    exact ⟨ga, o, rfl, fun i hi => (World.cell?_of_block (a := ⟨ga, o + i, none⟩) (hb.block ga (World.block_lt_of_cell? w _ (hc i hi)) hp)).trans (hc i hi)⟩⟩
theorem Ex.cell {P : Nat → Prop} {w w' : World} (h : Ex P w w') {a : Addr} {v : Value} (hc : w.cell? a = some v) (hp : ¬ P a.block) : w'.cell? a = some v := (World.cell?_of_block (h.block a.block (World.block_lt_of_cell? w a hc) hp)).trans hc
/-- A block of the call's own, made anew, does not count. -/
theorem Ex.new {P Q : Nat → Prop} {w W w2 : World} (h1 : Below w.heap.size w W) (h2 : Ex Q W w2) (hq : ∀ k, k < w.heap.size → Q k → P k) : Ex P w w2 :=
  ⟨h2.os.trans h1.os, h2.tape.trans h1.tape, h2.output.trans h1.output, Nat.le_trans h1.size h2.size, fun k hk hp => (h2.block k (Nat.lt_of_lt_of_le hk h1.size) (fun x => hp (hq k hk x))).trans (h1.block k hk)⟩

/-- Bytes do not lie in a block that holds none. -/
theorem RdB.exN {P : Nat → Prop} {w w1 : World} {A : Option Addr} {n c : Nat} {bs : List UInt8} (h : RdB w A n c bs) (hb : Ex P w w1) (hp : ∀ k, P k → ∃ cs t, w.heap[k]? = some (.cells cs t (0, 0)) ∧ ∀ (i : Nat) (x : Int), cs[i]? ≠ some (Value.int .u8 x)) : RdB w1 A n c bs :=
  ⟨h.len, h.cap, h.most, fun h0 => by
    obtain ⟨g', o', e, hc⟩ := h.lies h0
    refine ⟨g', o', e, fun i hi => (World.cell?_of_block (a := ⟨g', o' + i, none⟩) (hb.block g' (World.block_lt_of_cell? w _ (hc i hi)) fun hP => ?_)).trans (hc i hi)⟩
    obtain ⟨cs, t, hblk, hno⟩ := hp g' hP
    have h1 := hc i hi
    rw [blk_cell hblk (o' + i)] at h1
    exact hno _ _ h1⟩
theorem no_u8_5 {a b c : Int} {x y : ByteArray} (i : Nat) (z : Int) : (#[.int .u64 a, .int .u64 b, .int .u64 c, .string x, .string y] : Array Value)[i]? ≠ some (.int .u8 z) := by
  rcases i with _ | _ | _ | _ | _ | i <;> simp
theorem no_u8_1 {x : ByteArray} (i : Nat) (z : Int) : (#[.string x] : Array Value)[i]? ≠ some (.int .u8 z) := by
  rcases i with _ | i <;> simp


end Go.Proofs.YtnhnkfdhkifahaaGreatDoor
namespace Go.Proofs.YtnhnkfdhkifahaaGreatDoor
open Go.RowKit












































































end Go.Proofs.YtnhnkfdhkifahaaGreatDoor
namespace Go.Proofs.YtnhnkfdhkifahaaGreatDoor
open Go.RowKit

theorem copy_min (W : World) (g o m cm c' kk k ga oa : Nat) (bs : List UInt8) (hr : RdB W (some ⟨ga, oa, none⟩) kk c' bs) (hk : k = min m kk) (h0 : 0 < k) (hc : ∀ j, j < k → (W.cell? ⟨g, o + j, none⟩).isSome = true) (hf : ∀ j, j < k → W.frozen? ⟨g, o + j, none⟩ = false) :
    (Builtin.copy_ #[33, 33] 3 #[.slice (some ⟨g, o, none⟩) m cm, .slice (some ⟨ga, oa, none⟩) kk c']).run Tryz.prog W = .ok (goInt k) (W.setCells g o (Lib.byteCells (bs.take k))) := by
  have hl := hr.len
  have hlt : (bs.take k).length = k := by rw [List.length_take]; omega
  have h := run_copy_cells (P := Tryz.prog) W 33 33 3 5 g o m cm ⟨ga, oa, none⟩ kk c' (Lib.byteCells (bs.take k)) Tryz.underlying33 (by kernel_rfl) (by rw [Lib.byteCells_length, hlt, hk]; exact Nat.min_comm _ _)
    (fun j v hj => by
      have hjl : j < (bs.take k).length := by
        have := (List.getElem?_eq_some_iff.1 hj).1
        rwa [Lib.byteCells_length] at this
      obtain ⟨g', o', e, hcell⟩ := hr.lies (by omega)
      have e' := Option.some.inj e
      simp only [Addr.mk.injEq] at e'
      obtain ⟨rfl, rfl, _⟩ := e'
      rw [add_plain, hcell j (by omega)]
      rw [Lib.byteCells, List.getElem?_map, List.getElem?_eq_getElem hjl, List.getElem_take] at hj
      exact hj)
    (fun j hj => hc j (by rw [Lib.byteCells_length] at hj; omega)) (fun j hj => hf j (by rw [Lib.byteCells_length] at hj; omega)) (fun v hv => by
      simp only [Lib.byteCells, List.mem_map] at hv
      obtain ⟨b, _, rfl⟩ := hv
      rfl)
  rw [Lib.byteCells_length, hlt] at h
  exact h

/-- What a row of cells reads as behind a writing. -/
theorem putLs_size : ∀ (vs : List Value) (o : Nat) (cs : Array Value), (putLs cs o vs).size = cs.size
  | [], _, _ => rfl
  | v :: r, o, cs => by rw [putLs, putLs_size r (o + 1)]; simp
theorem putLs_get : ∀ (vs : List Value) (o : Nat) (cs : Array Value) (j : Nat), o + vs.length ≤ cs.size → (putLs cs o vs)[j]? = if o ≤ j ∧ j < o + vs.length then vs[j - o]? else cs[j]?
  | [], o, cs, j, _ => by rw [putLs, if_neg (by simp)]
  | v :: r, o, cs, j, h => by
    simp only [List.length_cons] at h ⊢
    rw [putLs, putLs_get r (o + 1) _ j (by simp; omega)]
    by_cases h1 : o + 1 ≤ j ∧ j < o + 1 + r.length
    · rw [if_pos h1, if_pos (by omega), show j - o = (j - (o + 1)) + 1 by omega, List.getElem?_cons_succ]
    · rw [if_neg h1, Array.getElem?_setIfInBounds]
      by_cases h2 : o = j
      · subst h2
        rw [if_pos rfl, if_pos (by omega), if_pos (by omega), Nat.sub_self]; rfl
      · rw [if_neg h2, if_neg (by omega)]
theorem blk_setCells {g : Nat} {t : TypeId} : ∀ (vs : List Value) (o : Nat) (cs : Array Value) {w : World}, w.heap[g]? = some (.cells cs t (0, 0)) → (w.setCells g o vs).heap[g]? = some (.cells (putLs cs o vs) t (0, 0))
  | [], _, _, _, h => h
  | v :: r, o, cs, _, h => blk_setCells r (o + 1) (cs.setIfInBounds o v) (blk_set h o v)
theorem rd_put {w : World} {g o cm : Nat} {t : TypeId} {cs : Array Value} {xs : List UInt8} (h : w.heap[g]? = some (.cells (putLs cs o (Lib.byteCells xs)) t (0, 0))) (hs : o + xs.length ≤ cs.size) (hl : xs.length ≤ cm) (hc : cm ≤ 9223372036854775807) : RdB w (some ⟨g, o, none⟩) xs.length cm xs := by
  refine ⟨rfl, hl, hc, fun _ => ⟨g, o, rfl, fun i hi => ?_⟩⟩
  rw [blk_cell h, putLs_get _ _ _ _ (by rw [Lib.byteCells_length]; exact hs), Lib.byteCells_length, if_pos (by omega), show o + i - o = i by omega]
  simp [Lib.byteCells, hi]

/-- What operations 0 to 9 of the copying region leave. -/
def rdG (g ga gd n c o m cm i : Nat) (j : Nat) (v : Value) (_ : World) : Prop :=
  match j with
  | 0 => v = .slice (some ⟨gd, o, none⟩) m cm
  | 1 => v = .pointer (some ⟨g, 0, none⟩)
  | 2 => v = .pointer (some ⟨g, 0, none⟩)
  | 3 => v = .pointer (some ⟨g, 0, none⟩)
  | 4 => v = .slice (some ⟨ga, 0, none⟩) n c
  | 5 => v = .pointer (some ⟨g, 0, none⟩)
  | 6 => v = .pointer (some ⟨g, 0, none⟩)
  | 7 => v = .pointer (some ⟨g, 1, none⟩)
  | 8 => v = .int .i64 i
  | 9 => v = .slice (some ⟨ga, i, none⟩) (n - i) (c - i)
  | _ => True



















































































































































end Go.Proofs.YtnhnkfdhkifahaaGreatDoor
