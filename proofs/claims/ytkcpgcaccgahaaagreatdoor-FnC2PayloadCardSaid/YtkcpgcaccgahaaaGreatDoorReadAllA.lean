/- Some texts in one: OwnB, RaSt, RdAll. -/
import Derived.Test.YtkcpgcaccgahaaaGreatDoorSrcA
import Derived.Lib.AppendZeros
import Derived.Test.YtkcpgcaccgahaaaGreatDoorGrowB
namespace Go.Proofs.YtkcpgcaccgahaaaGreatDoor
open Go.RowKit

structure OwnB (w : World) (B g n c : Nat) (p : List UInt8) : Prop where
  len : p.length = n
  lo : B ≤ g
  cap : n ≤ c
  most : c ≤ maxLen
  blk : ∃ cur, w.heap[g]? = some (.cells cur 5 (0, 0)) ∧ cur.size = c ∧ cur.toList.take n = Lib.byteCells p
theorem OwnB.row {w : World} {B g n c : Nat} {p : List UInt8} (h : OwnB w B g n c p) : w.ownsRow B 5 1 (.slice (some ⟨g, 0, none⟩) n c) n (Lib.byteCells p) := by
  obtain ⟨cur, h1, h2, h3⟩ := h.blk
  exact ⟨by rw [Lib.byteCells_length, h.len, Nat.mul_one], .inr ⟨g, c, cur, rfl, h.lo, h1, h.cap, h.most, by rw [Nat.mul_one]; exact h2, by rw [Nat.mul_one]; exact h3⟩⟩
theorem ownB_of {w : World} {B n : Nat} {v : Value} {p : List UInt8} (h : w.ownsRow B 5 1 v n (Lib.byteCells p)) (h0 : v ≠ .slice none 0 0) : ∃ g c, v = .slice (some ⟨g, 0, none⟩) n c ∧ OwnB w B g n c p := by
  obtain ⟨h1, h2⟩ := h
  rw [Lib.byteCells_length, Nat.mul_one] at h1
  rcases h2 with ⟨h3, _⟩ | ⟨g, cap, cur, rfl, h3, h4, h5, h6, h7, h8⟩
  · exact absurd h3 h0
  · rw [Nat.mul_one] at h7 h8
    exact ⟨g, cap, rfl, h1, h3, h5, h6, cur, h4, h7, h8⟩
theorem OwnB.of_heap {w w' : World} {B g n c : Nat} {p : List UInt8} (h : OwnB w B g n c p) (hh : w'.heap[g]? = w.heap[g]?) : OwnB w' B g n c p := by
  obtain ⟨cur, h1, h2⟩ := h.blk
  exact ⟨h.len, h.lo, h.cap, h.most, cur, hh.trans h1, h2⟩
theorem OwnB.lt {w : World} {B g n c : Nat} {p : List UInt8} (h : OwnB w B g n c p) : g < w.heap.size := by
  obtain ⟨cur, h1, _⟩ := h.blk
  exact (Array.getElem?_eq_some_iff.1 h1).1
theorem OwnB.below {w w' : World} {B g n c : Nat} {p : List UInt8} (h : OwnB w B g n c p) (hb : Below w.heap.size w w') : OwnB w' B g n c p := h.of_heap (hb.block g h.lt)
theorem OwnB.ex {P : Nat → Prop} {w w' : World} {B g n c : Nat} {p : List UInt8} (h : OwnB w B g n c p) (hb : Ex P w w') (hp : ¬ P g) : OwnB w' B g n c p := h.of_heap (hb.block g h.lt hp)
theorem OwnB.rd {w : World} {B g n c : Nat} {p : List UInt8} (h : OwnB w B g n c p) : RdB w (some ⟨g, 0, none⟩) n c p := by
  obtain ⟨cur, h1, h2, h3⟩ := h.blk
  refine ⟨h.len, h.cap, h.most, fun h0 => ⟨g, 0, rfl, fun i hi => ?_⟩⟩
  rw [blk_cell h1, Nat.zero_add]
  have hin : i < n := by rw [← h.len]; exact hi
  have h4 : (cur.toList.take n)[i]? = (Lib.byteCells p)[i]? := by rw [h3]
  rw [List.getElem?_take_of_lt hin, Array.getElem?_toList] at h4
  rw [h4]
  simp [Lib.byteCells, hi]
/-- What a reading behind its end leaves. -/
theorem OwnB.put {w w' : World} {B g n c : Nat} {p x : List UInt8} (h : OwnB w B g n c p) {cur : Array Value} (hc : w.heap[g]? = some (.cells cur 5 (0, 0))) (hw : w'.heap[g]? = some (.cells (putLs cur n (Lib.byteCells x)) 5 (0, 0))) (hx : n + x.length ≤ c) : OwnB w' B g (n + x.length) c (p ++ x) := by
  obtain ⟨cur', h1, h2, h3⟩ := h.blk
  obtain rfl : cur' = cur := by have := h1.symm.trans hc; simpa using this
  refine ⟨by rw [List.length_append, h.len], h.lo, hx, h.most, _, hw, by rw [putLs_size, h2], ?_⟩
  apply List.ext_getElem?
  intro i
  have hbl := Lib.byteCells_length x
  have hpl := Lib.byteCells_length p
  by_cases hi : i < n + x.length
  · rw [List.getElem?_take_of_lt hi, Array.getElem?_toList, putLs_get _ _ _ _ (by rw [hbl]; omega), hbl]
    have e : Lib.byteCells (p ++ x) = Lib.byteCells p ++ Lib.byteCells x := by simp [Lib.byteCells]
    rw [e]
    by_cases hin : n ≤ i
    · rw [if_pos ⟨hin, hi⟩, List.getElem?_append_right (by rw [hpl, h.len]; exact hin), hpl, h.len]
    · rw [if_neg (by omega), List.getElem?_append_left (by rw [hpl, h.len]; omega), ← h3, List.getElem?_take_of_lt (by omega), Array.getElem?_toList]
  · rw [List.getElem?_eq_none (by rw [List.length_take]; omega), List.getElem?_eq_none (by rw [Lib.byteCells_length, List.length_append, h.len]; omega)]
/-- A row made anew, of which nothing is used. -/
theorem ownB_new {w : World} {B g c : Nat} {cur : Array Value} (h : w.heap[g]? = some (.cells cur 5 (0, 0))) (hs : cur.size = c) (hB : B ≤ g) (hc : c ≤ maxLen) : OwnB w B g 0 c [] :=
  ⟨rfl, hB, Nat.zero_le _, hc, cur, h, hs, rfl⟩

/-- Parts that stand in rows of their own. -/
def PartsB (w : World) (B gb : Nat) (xs : List Value) (ps : List (List UInt8)) : Prop :=
  xs.length = ps.length ∧ ∀ (j : Nat) (p : List UInt8), ps[j]? = some p → ∃ g c, xs[j]? = some (Value.slice (some ⟨g, 0, none⟩) p.length c) ∧ OwnB w B g p.length c p ∧ g ≠ gb
theorem PartsB.of_heap {w w' : World} {B gb gb' : Nat} {xs : List Value} {ps : List (List UInt8)} (h : PartsB w B gb xs ps) (hh : ∀ g, g < w.heap.size → g ≠ gb → B ≤ g → (∃ cur, w.heap[g]? = some (.cells cur 5 (0, 0))) → w'.heap[g]? = w.heap[g]? ∧ g ≠ gb') : PartsB w' B gb' xs ps :=
  ⟨h.1, fun j p hj => by
    obtain ⟨g, c, h1, h2, h3⟩ := h.2 j p hj
    have h4 := hh g h2.lt h3 h2.lo (by obtain ⟨cur, h5, _⟩ := h2.blk; exact ⟨cur, h5⟩)
    exact ⟨g, c, h1, h2.of_heap h4.1, h4.2⟩⟩
theorem PartsB.snoc {w : World} {B gb : Nat} {xs : List Value} {ps : List (List UInt8)} (h : PartsB w B gb xs ps) {g n c : Nat} {p : List UInt8} (ho : OwnB w B g n c p) (hg : g ≠ gb) : PartsB w B gb (xs ++ [.slice (some ⟨g, 0, none⟩) n c]) (ps ++ [p]) := by
  refine ⟨by simp [h.1], fun j q hj => ?_⟩
  by_cases hjl : j < ps.length
  · rw [List.getElem?_append_left hjl] at hj
    rw [List.getElem?_append_left (by rw [h.1]; exact hjl)]
    exact h.2 j q hj
  · have hjl2 := (List.getElem?_eq_some_iff.1 hj).1
    rw [List.length_append, List.length_singleton] at hjl2
    obtain rfl : j = ps.length := by omega
    rw [List.getElem?_append_right (Nat.le_refl _), Nat.sub_self] at hj
    obtain rfl : p = q := by simpa using hj
    rw [List.getElem?_append_right (by rw [h.1]; omega), h.1, Nat.sub_self]
    have hl := ho.len
    subst hl
    exact ⟨g, c, rfl, ho, hg⟩

/-- 'b[len(b):cap(b)]'. -/
theorem cut_room (t : TypeId) (kl kh : IntKind) (ht : Tryz.prog.underlying t = some (.slice 5)) (g n c : Nat) (hn : n < c) (W : World) :
    (Instr.slice t (.slice (some ⟨g, 0, none⟩) n c) (some (.int kl (n : Int))) (some (.int kh (c : Int))) none).run Tryz.prog W = .ok (.slice (some ⟨g, n, none⟩) (c - n) (c - n)) W := by
  obtain ⟨i, hi, _, hs, _⟩ := info_parts info_u8
  have hel : Tryz.prog.elem t = 5 := by simp [Program.elem, ht]
  have hu : Tryz.prog.underlying t = some (.slice (Tryz.prog.elem t)) := by rw [hel]; exact ht
  rw [run_slice_lh W t _ n c hu kl kh (n : Int) (c : Int) (Int.natCast_nonneg _) (by omega) (by omega), hel]
  have hne : ¬ c = n := by omega
  simp [sizeOf, typeInfo, hi, hs, sliced, Result.andThen, hne, add_plain]
/-- 'b[:h]'. -/
theorem cut_hi (t : TypeId) (kh : IntKind) (ht : Tryz.prog.underlying t = some (.slice 5)) (g n c h : Nat) (hn : h ≤ c) (W : World) :
    (Instr.slice t (.slice (some ⟨g, 0, none⟩) n c) none (some (.int kh (h : Int))) none).run Tryz.prog W = .ok (.slice (some ⟨g, 0, none⟩) h c) W := by
  obtain ⟨i, hi, _, hs, _⟩ := info_parts info_u8
  have hel : Tryz.prog.elem t = 5 := by simp [Program.elem, ht]
  have hu : Tryz.prog.underlying t = some (.slice (Tryz.prog.elem t)) := by rw [hel]; exact ht
  rw [run_slice_h W t _ n c hu kh (h : Int) (Int.natCast_nonneg _) (by omega), hel]
  simp [sizeOf, typeInfo, hi, hs, sliced, Result.andThen, add_plain]
/-- 'make([]byte, 0, n)'. -/
theorem mk_room (t : TypeId) (ht : Tryz.prog.underlying t = some (.slice 5)) (n : Nat) (hn : n ≤ 140737488355328) (W : World) :
    (Instr.makeSlice t (.int .i64 0) (.int .i64 (n : Int))).run Tryz.prog W = .ok (.slice (some ⟨W.heap.size, 0, none⟩) 0 n) (W.alloc (.cells (zeros n) 5)) := by
  obtain ⟨i, hi, hz, hs, hb⟩ := info_parts info_u8
  have h := run_make (P := Tryz.prog) W t 5 i _ ht hi hz .i64 .i64 (0 : Int) (n : Int) (by omega) (by omega) (by rw [hb]; omega) (by omega)
  simp only [Int.toNat_natCast, hs, Nat.mul_one] at h
  have hm : madeCells (Value.cells (.int .u8 0)) n = zeros n := by
    apply Array.ext
    · rw [size_madeCells, zeros_size]
    · intro j h1 h2
      simp [madeCells, zeros, Value.cells, Nat.mod_one]
  rw [hm] at h
  exact h
/-- 'append([]byte(nil), make([]byte, n)...)'. -/
theorem app_zeros (t tn ty : TypeId) (kn : IntKind) (ht : Tryz.prog.underlying t = some (.slice 5)) (htn : Tryz.prog.underlying tn = some (.int kn)) (k : IntKind) (n : Nat) (h0 : 0 < n) (h48 : n ≤ 281474976710656) (w : World) :
    ∃ c W, (Builtin.append_ #[t, tn] ty #[.slice none 0 0, .int k n]).run Tryz.prog w = .ok (.slice (some ⟨w.heap.size, 0, none⟩) n c) W ∧ Below w.heap.size w W ∧ n ≤ c ∧ c ≤ maxLen ∧ ∃ cur, W.heap[w.heap.size]? = some (.cells cur 5 (0, 0)) ∧ cur.size = c := by
  obtain ⟨i, hi, hz, hs, hb⟩ := info_parts info_u8
  have hge := _root_.Go.grownCap_ge w n 0 5
  refine ⟨_, _, Lib.run_append_nil_zeros w t tn ty 5 i _ k kn ht htn hi hz n h0 (by omega) (by omega) (by rw [hb]; omega), bel_alloc (bel_drew (Below.refl _ _)) _, hge, grownCap_le_maxLen w n 0 _ (by unfold maxLen; omega), _, blk_new (w := w.drew) (Below.refl _ _), ?_⟩
  rw [Array.size_append, size_zeroCells, size_zeroCells]
  simp [Value.cells]
  omega
end Go.Proofs.YtkcpgcaccgahaaaGreatDoor
namespace Go.Proofs.YtkcpgcaccgahaaaGreatDoor
open Go.RowKit

/-- A further step, in which only blocks may turn that may turn or are new. -/
theorem Ex.after {P Q : Nat → Prop} {w W w2 : World} (h1 : Ex P w W) (h2 : Ex Q W w2) (hq : ∀ k, k < w.heap.size → Q k → P k) : Ex P w w2 :=
  ⟨h2.os.trans h1.os, h2.tape.trans h1.tape, h2.output.trans h1.output, Nat.le_trans h1.size h2.size, fun k hk hp => (h2.block k (Nat.lt_of_lt_of_le hk h1.size) (fun x => hp (hq k hk x))).trans (h1.block k hk hp)⟩
theorem ownsRow_heap {w w' : World} {B n : Nat} {e : TypeId} {v : Value} {xs : List Value} (h : w.ownsRow B e 1 v n xs) (hh : ∀ g cur, B ≤ g → w.heap[g]? = some (.cells cur e (0, 0)) → w'.heap[g]? = w.heap[g]?) : w'.ownsRow B e 1 v n xs := by
  refine ⟨h.1, ?_⟩
  rcases h.2 with ho | ⟨g, cap, cur, rfl, hg, hgg, rest⟩
  · exact .inl ho
  · exact .inr ⟨g, cap, cur, rfl, hg, (hh g cur hg hgg).trans hgg, rest⟩

/-- What is known at the head of ReadAll's loop, and behind its reading. -/
structure RaSt (w : World) (bs : List UInt8) (O : Nat → Prop) (S : Nat → World → Prop) (gb nb cb nx fs kk : Nat) (vc : Value) (wr : World) : Prop where
  src : S (fs + nb) wr
  own : ∃ part xs ps, OwnB wr w.heap.size gb nb cb part ∧ wr.ownsRow w.heap.size 67 1 vc kk xs ∧ PartsB wr w.heap.size gb xs ps ∧ ps.length = kk ∧ ps.flatten.length = fs ∧ ps.flatten ++ part = bs.take (fs + nb)
  le : fs + nb ≤ bs.length
  room : 256 ≤ cb
  nx : 256 ≤ nx ∧ 2 * nx ≤ 3 * cb ∧ nx ≤ 4 * (fs + nb) + 512
  few : kk ≤ fs
  ex : Ex O w wr
theorem RaSt.nbc {w : World} {bs : List UInt8} {O : Nat → Prop} {S : Nat → World → Prop} {gb nb cb nx fs kk : Nat} {vc : Value} {wr : World} (h : RaSt w bs O S gb nb cb nx fs kk vc wr) : nb ≤ cb ∧ cb ≤ 9223372036854775807 := by
  obtain ⟨part, xs, ps, h1, _⟩ := h.own
  exact ⟨h1.cap, h1.most⟩
theorem RaSt.below {w : World} {bs : List UInt8} {O : Nat → Prop} {S : Nat → World → Prop} {gb nb cb nx fs kk : Nat} {vc : Value} {wr w' : World} (h : RaSt w bs O S gb nb cb nx fs kk vc wr) (hS : S (fs + nb) w') (hb : Below wr.heap.size wr w') : RaSt w bs O S gb nb cb nx fs kk vc w' := by
  obtain ⟨part, xs, ps, h1, h2, h3, h4, h5, h6⟩ := h.own
  refine ⟨hS, ⟨part, xs, ps, h1.below hb, ownsRow_heap h2 (fun g cur _ hg => hb.block g (Array.getElem?_eq_some_iff.1 hg).1), h3.of_heap (fun g hg hne _ _ => ⟨hb.block g hg, hne⟩), h4, h5, h6⟩, h.le, h.room, h.nx, h.few, h.ex.trans (Ex.of_below hb)⟩
/-- A reading of j bytes into the row's rest. -/
theorem RaSt.read {w : World} {bs : List UInt8} {O : Nat → Prop} {S : Nat → World → Prop} {gb nb cb nx fs kk : Nat} {vc : Value} {wr w3 : World} (h : RaSt w bs O S gb nb cb nx fs kk vc wr) (hO : ∀ x, O x → x < w.heap.size) {j : Nat} {cur : Array Value} (hc : wr.heap[gb]? = some (.cells cur 5 (0, 0))) (hj : j = min (cb - nb) (bs.length - (fs + nb)))
    (h1 : S (fs + nb + j) w3) (h2 : w3.heap[gb]? = some (.cells (putLs cur nb (Lib.byteCells ((bs.drop (fs + nb)).take j))) 5 (0, 0))) (h3 : Ex (fun x => O x ∨ x = gb) wr w3) : RaSt w bs O S gb (nb + j) cb nx fs kk vc w3 := by
  obtain ⟨part, xs, ps, ho, hr, hp, hk, hf, ha⟩ := h.own
  have hle := h.le
  have hl : ((bs.drop (fs + nb)).take j).length = j := by rw [List.length_take, List.length_drop]; omega
  have hput := ho.put hc h2 (by rw [hl]; have := ho.cap; omega)
  rw [hl] at hput
  have hnO : ∀ g, w.heap.size ≤ g → g ≠ gb → ¬ (O g ∨ g = gb) := fun g hg hne => by
    rintro (hx | hx)
    · have := hO g hx; omega
    · exact hne hx
  refine ⟨by rw [show fs + (nb + j) = fs + nb + j by omega]; exact h1, ⟨part ++ (bs.drop (fs + nb)).take j, xs, ps, hput, ownsRow_heap hr (fun g cu hg hgg => h3.block g (Array.getElem?_eq_some_iff.1 hgg).1 (hnO g hg (fun e => ?_))), hp.of_heap (fun g hg hne hB _ => ⟨h3.block g hg (hnO g hB hne), hne⟩), hk, hf, ?_⟩, by omega, h.room, ⟨h.nx.1, h.nx.2.1, by have := h.nx.2.2; omega⟩, h.few, h.ex.after h3 (fun k hk hx => ?_)⟩
  · subst e
    have := hgg.symm.trans hc
    simp only [Option.some.injEq, Obj.cells.injEq] at this
    exact absurd this.2.1 (by decide)
  · rw [← List.append_assoc, ha, show fs + (nb + j) = fs + nb + j by omega]
    exact List.take_add.symm
  · rcases hx with hx | rfl
    · exact hx
    · have := ho.lo; omega
/-- All of it, in one row. -/
theorem RaSt.one {w : World} {bs : List UInt8} {O : Nat → Prop} {S : Nat → World → Prop} {gb nb cb nx fs : Nat} {vc : Value} {wr : World} (h : RaSt w bs O S gb nb cb nx fs 0 vc wr) (hl : fs + nb = bs.length) : nb = bs.length ∧ OwnB wr w.heap.size gb bs.length cb bs := by
  obtain ⟨part, xs, ps, h1, h2, h3, h4, h5, h6⟩ := h.own
  have hps : ps = [] := List.length_eq_zero_iff.1 h4
  subst hps
  simp only [List.flatten_nil, List.length_nil] at h5
  have hnb : nb = bs.length := by omega
  subst h5
  simp only [List.flatten_nil, List.nil_append, Nat.zero_add] at h6
  subst hnb
  rw [List.take_length] at h6
  subst h6
  exact ⟨rfl, h1⟩
/-- The row is full: it becomes a part, and a new one is made. -/
theorem RaSt.next {w : World} {bs : List UInt8} {O : Nat → Prop} {S : Nat → World → Prop} {gb nb cb nx fs kk : Nat} {vc : Value} {wr : World} (h : RaSt w bs O S gb nb cb nx fs kk vc wr) (hn : cb - nb < cb / 16)
    {xs : List Value} (hx : ∃ part ps, OwnB wr w.heap.size gb nb cb part ∧ wr.ownsRow w.heap.size 67 1 vc kk xs ∧ PartsB wr w.heap.size gb xs ps ∧ ps.length = kk ∧ ps.flatten.length = fs ∧ ps.flatten ++ part = bs.take (fs + nb)) {w2 w3 : World} {v2 : Value} (hrow : w2.ownsRow w.heap.size 67 1 v2 (kk + 1) (xs ++ [.slice (some ⟨gb, 0, none⟩) nb cb])) (hgrow : ∀ g, g < wr.heap.size → (∀ cu, wr.heap[g]? ≠ some (.cells cu 67 (0, 0))) → w2.heap[g]? = wr.heap[g]?)
    (hex : Ex O w w2) (hsz : wr.heap.size ≤ w2.heap.size) (hb : Below w2.heap.size w2 w3) {c : Nat} {cur : Array Value} (hcur : w3.heap[w2.heap.size]? = some (.cells cur 5 (0, 0))) (hcs : cur.size = c) (hcn : nx ≤ c) (hcm : c ≤ maxLen) (hS : S (fs + nb) w3) : RaSt w bs O S w2.heap.size 0 c (nx + nx / 2) (fs + nb) (kk + 1) v2 w3 := by
  obtain ⟨part, ps, ho, _, hp, hk, hf, ha⟩ := hx
  have hlt := ho.lt
  have hu : ∀ g, g < wr.heap.size → (∃ cu, wr.heap[g]? = some (.cells cu 5 (0, 0))) → w3.heap[g]? = wr.heap[g]? := fun g hg ⟨cu, hcu⟩ => by
    rw [hb.block g (by omega)]
    refine hgrow g hg (fun cu2 e => ?_)
    have := hcu.symm.trans e
    simp only [Option.some.injEq, Obj.cells.injEq] at this
    exact absurd this.2.1 (by decide)
  have hpl : part.length = nb := ho.len
  have h16 : nb ≤ cb := ho.cap
  have hrm := h.room
  have hnx := h.nx
  refine ⟨by rw [Nat.add_zero]; exact hS, ⟨[], _, ps ++ [part], ownB_new hcur hcs (Nat.le_trans h.ex.size hsz) hcm, ownsRow_heap hrow (fun g cu _ hg => hb.block g (Array.getElem?_eq_some_iff.1 hg).1), ?_, by simp [hk], by simp [hf, hpl], ?_⟩, by rw [Nat.add_zero]; exact h.le, by omega, ⟨by omega, by omega, by omega⟩, by have := h.few; omega, hex.trans (Ex.of_below hb)⟩
  · have h1 : PartsB w3 w.heap.size w2.heap.size xs ps := hp.of_heap (fun g hg _ _ hc => ⟨hu g hg hc, by omega⟩)
    refine h1.snoc (ho.of_heap (hu gb hlt ?_)) (by omega)
    obtain ⟨cu, h2, _⟩ := ho.blk
    exact ⟨cu, h2⟩
  · simp only [List.flatten_append, List.flatten_cons, List.flatten_nil, List.append_nil, Nat.add_zero]
    exact ha
end Go.Proofs.YtkcpgcaccgahaaaGreatDoor
namespace Go.Proofs.YtkcpgcaccgahaaaGreatDoor
open Go.RowKit

def raR (T : TypeId) (pv : Value) (gb nb cb : Nat) (j : Nat) (v : Value) (_ : World) : Prop :=
  match j with
  | 0 => v = .iface T pv
  | 1 => v = .slice (some ⟨gb, 0, none⟩) nb cb
  | 2 => v = .slice (some ⟨gb, 0, none⟩) nb cb
  | 3 => v = .int .i64 nb
  | 4 => v = .slice (some ⟨gb, 0, none⟩) nb cb
  | 5 => v = .int .i64 cb
  | 6 => v = .slice (some ⟨gb, nb, none⟩) (cb - nb) (cb - nb)
  | 7 => v = .func (Fn.method "Read") #[.iface T pv] #[]
  | 8 => v = .func (Fn.method "Read") #[.iface T pv] #[]
  | 9 => v = .iface T pv
  | _ => True
def raR' (j0 : Nat) (v0 : Value) (j : Nat) (v : Value) (_ : World) : Prop :=
  match j with
  | 10 => v = .tuple #[.int .i64 j0, v0]
  | 11 => v = .tuple #[.int .i64 j0, v0]
  | 12 => v = .int .i64 j0
  | 13 => v = v0
  | 14 => v = .int .i64 j0
  | 15 => v = v0
  | _ => True

theorem kp_stop {p : Prop} (h : Kp p) : p := h.out
def slLen (v : Value) : Nat := match v with | .slice _ n _ => n | _ => 0
/-- What io.ReadAll hands back. -/
def RaEndA (w : World) (bs : List UInt8) (O : Nat → Prop) (S : Nat → World → Prop) (e : Ending) (w' : World) : Prop :=
  ∃ g c, e = .returned (.tuple #[.slice (some ⟨g, 0, none⟩) bs.length c, .nilIface]) ∧ OwnB w' w.heap.size g bs.length c bs ∧ S bs.length w' ∧ Ex O w w'

theorem mk_lists (W : World) : (Instr.makeSlice 123 (.int .i64 0) (.int .i64 4)).run Tryz.prog W = .ok (.slice (some ⟨W.heap.size, 0, none⟩) 0 4) (W.alloc (.cells #[.slice none 0 0, .slice none 0 0, .slice none 0 0, .slice none 0 0] 67)) := by kernel_rfl

set_option maxHeartbeats 8000000 in
set_option maxRecDepth 100000 in
/-- io.ReadAll. -/
theorem rdAll_calls (T : TypeId) (pv : Value) (fr : FuncId) (bs : List UInt8) (ve vu vo vn : Value) (O D : Nat → Prop) (S : Nat → World → Prop) (H : Src T pv fr bs ve vu vo vn O D S) (w : World) (hS : S 0 w) (hlen : bs.length ≤ 1099511627776) :
    Calls Tryz.prog 28 #[.iface T pv] w fun e w' => RaEndA w bs O S e w' := by
  obtain ⟨Te, ue, rfl⟩ := (H.errs _ _ hS).eofE.iface
  have hq := errV_same (H.errs _ _ hS).eofE
  have hmk : ∀ W : World, (Instr.makeSlice 67 (.int .i64 0) (.int .i64 512)).run Tryz.prog W = .ok (.slice (some ⟨W.heap.size, 0, none⟩) 0 512) (W.alloc (.cells (zeros 512) 5)) := fun W => mk_room 67 Tryz.underlying67 512 (by omega) W
  have hml := mk_lists
  have hme := H.meth
  have hcf := H.enter
  have HN := Kp.mk H.nila
  obtain ⟨iu, hu, hu0, hu1, hu2⟩ := info_parts info_u8
  have HIU := Kp.mk (And.intro hu (And.intro hu0 (And.intro hu1 hu2)))
  clear hu hu0 hu1 hu2
  obtain ⟨i0, hi, hz0, hz1, hz2⟩ := info_parts (show (Tryz.prog.info? 67).map (fun i => (i.zero, i.size, i.bytes)) = some (some (.slice none 0 0), 1, 24) by kernel_rfl)
  have HI := Kp.mk (And.intro hi (And.intro hz0 (And.intro hz1 hz2)))
  clear hi hz0 hz1 hz2
  have HB1 := Kp.mk (bel_alloc (Below.refl w.heap.size w) (.cells (zeros 512) 5))
  obtain ⟨W1, hW1⟩ : ∃ W1, W1 = w.alloc (.cells (zeros 512) 5) := ⟨_, rfl⟩
  have HB2 := Kp.mk (bel_alloc (Below.refl W1.heap.size W1) (.cells #[.slice none 0 0, .slice none 0 0, .slice none 0 0, .slice none 0 0] 67))
  obtain ⟨W2, hW2⟩ : ∃ W2, W2 = W1.alloc (.cells #[.slice none 0 0, .slice none 0 0, .slice none 0 0, .slice none 0 0] 67) := ⟨_, rfl⟩
  have hg1 : W1.heap[w.heap.size]? = some (.cells (zeros 512) 5 (0, 0)) := by rw [hW1]; exact blk_new (w := w) (Below.refl _ _)
  have hg2 : W2.heap[W1.heap.size]? = some (.cells #[.slice none 0 0, .slice none 0 0, .slice none 0 0, .slice none 0 0] 67 (0, 0)) := by rw [hW2]; exact blk_new (w := W1) (Below.refl _ _)
  rw [← hW1] at HB1
  rw [← hW2] at HB2
  have hb2 : Below w.heap.size w W2 := bel_then HB1.out HB2.out
  have hst : RaSt w bs O S w.heap.size 0 512 256 0 0 (.slice (some ⟨W1.heap.size, 0, none⟩) 0 4) W2 :=
    ⟨H.below hS hb2, ⟨[], [], [], ownB_new (blk_keep hg1 HB2.out) (zeros_size _) (Nat.le_refl _) (by unfold maxLen; omega), ⟨rfl, .inr ⟨_, _, _, rfl, HB1.out.size, hg2, by omega, by unfold maxLen; omega, rfl, rfl⟩⟩, ⟨rfl, fun j p h => by simp at h⟩, rfl, rfl, rfl⟩, Nat.zero_le _, by omega, ⟨by omega, by omega, by omega⟩, Nat.le_refl _, Ex.of_below hb2⟩
  have HST := Kp.mk hst
  have HW1 := Kp.mk hW1
  have HW2 := Kp.mk hW2
  have HH := Kp.mk (And.intro H hS)
  have HL := Kp.mk hlen
  obtain ⟨g0, hg0⟩ : ∃ g0, g0 = w.heap.size := ⟨_, rfl⟩
  obtain ⟨g9, hg9⟩ : ∃ g9, g9 = w.heap.size + 1 := ⟨_, rfl⟩
  rw [show W1.heap.size = g9 by rw [hW1, hg9]; simp [World.alloc, -World.alloc_eq], ← hg0] at HST
  have HG := Kp.mk (And.intro hg0 hg9)
  clear H hS hlen hst hg1 hg2 hb2 HB1 HB2 hW1 hW2 hg0 hg9
  go_enter Tryz.func28, Tryz.ntmps28
  go_wp2_with fail
  rw [← HW1.out, ← HW2.out, ← HG.out.2, ← HG.out.1]
  go_loopw [4, 5, 6, 7] (fun vb vn vc vf wr => ∃ gb nb cb nx fs kk gl cl : Nat, vb = .slice (some ⟨gb, 0, none⟩) nb cb ∧ vn = .int .i64 nx ∧ vc = .slice (some ⟨gl, 0, none⟩) kk cl ∧ vf = .int .i64 fs ∧ Kp (RaSt w bs O S gb nb cb nx fs kk vc wr ∧ cb / 16 ≤ cb - nb))
    (fun vb _ _ vf _ => bs.length - ((intOf vf).toNat + slLen vb))
  case atStart => exact ⟨_, _, _, _, _, _, _, _, rfl, rfl, rfl, rfl, ⟨HST.out, by omega⟩⟩
  case round =>
    obtain ⟨gb, nb, cb, nx, fs, kk, gl, cl, rfl, rfl, rfl, rfl, hK⟩ := hrel
    have hnc : nb < cb := by have h1 := hK.out.1.room; have h2 := hK.out.2; omega
    have hcut := fun W => cut_room 67 .i64 .i64 Tryz.underlying67 gb nb cb hnc W
    have HNC := Kp.mk hnc
    clear hnc
    go_wp2_with fail
    refine wp_region_growR (fun u u' => u = u') (fun _ => rfl) (fun _ _ _ h k => h.trans k) (by kernel_rfl) 10 (by decide) (apart_of (by kernel_rfl)) (by kernel_rfl) (raR T pv gb nb cb) (fun _ _ _ _ => True) (fun _ _ _ _ h _ => by unfold raR at *; exact h) ?_ ?_
    · intro j hj ob ho vs w2 hb hpre
      subst hb
      rcases j with _ | _ | _ | _ | _ | _ | _ | _ | _ | _ | j
      · obtain rfl := Option.some.inj ho
        simp only [canon, List.range, List.range.loop, List.foldl]
        go_simp
        all_goals first | rfl | exact ⟨rfl, rfl⟩ | trivial
      · obtain rfl := Option.some.inj ho
        simp only [canon, List.range, List.range.loop, List.foldl]
        go_simp
        all_goals first | rfl | exact ⟨rfl, rfl⟩ | trivial
      · obtain rfl := Option.some.inj ho
        simp only [canon, List.range, List.range.loop, List.foldl]
        go_simp
        all_goals first | rfl | exact ⟨rfl, rfl⟩ | trivial
      · have e2 : vs 2 = _ := hpre 2 (by decide) (by obtain rfl := Option.some.inj ho; rfl)
        obtain rfl := Option.some.inj ho
        simp only [canon, List.range, List.range.loop, List.foldl]
        go_simp
        all_goals first | rfl | exact ⟨rfl, rfl⟩ | trivial
      · obtain rfl := Option.some.inj ho
        simp only [canon, List.range, List.range.loop, List.foldl]
        go_simp
        all_goals first | rfl | exact ⟨rfl, rfl⟩ | trivial
      · have e4 : vs 4 = _ := hpre 4 (by decide) (by obtain rfl := Option.some.inj ho; rfl)
        obtain rfl := Option.some.inj ho
        simp only [canon, List.range, List.range.loop, List.foldl]
        go_simp
        all_goals first | rfl | exact ⟨rfl, rfl⟩ | trivial
      · have e1 : vs 1 = _ := hpre 1 (by decide) (by obtain rfl := Option.some.inj ho; rfl)
        have e3 : vs 3 = _ := hpre 3 (by decide) (by obtain rfl := Option.some.inj ho; rfl)
        have e5 : vs 5 = _ := hpre 5 (by decide) (by obtain rfl := Option.some.inj ho; rfl)
        obtain rfl := Option.some.inj ho
        simp only [canon, List.range, List.range.loop, List.foldl]
        go_simp
        all_goals first | rfl | exact ⟨rfl, rfl⟩ | trivial
      · have e0 : vs 0 = _ := hpre 0 (by decide) (by obtain rfl := Option.some.inj ho; rfl)
        obtain rfl := Option.some.inj ho
        simp only [canon, List.range, List.range.loop, List.foldl]
        go_simp
        all_goals first | rfl | exact ⟨rfl, rfl⟩ | trivial
      · have e7 : vs 7 = _ := hpre 7 (by decide) (by obtain rfl := Option.some.inj ho; rfl)
        obtain rfl := Option.some.inj ho
        simp only [canon, List.range, List.range.loop, List.foldl]
        go_simp
        rw [HN.out _]
        go_simp
        all_goals first | rfl | exact ⟨rfl, rfl⟩ | trivial
      · have e0 : vs 0 = _ := hpre 0 (by decide) (by obtain rfl := Option.some.inj ho; rfl)
        obtain rfl := Option.some.inj ho
        simp only [canon, List.range, List.range.loop, List.foldl]
        go_simp
        all_goals first | rfl | exact ⟨rfl, rfl⟩ | trivial
      · omega
    · intro vs w2 hb hr _
      subst hb
      have e6 : vs 6 = _ := hr 6 (by omega)
      have e9 : vs 9 = _ := hr 9 (by omega)
      simp only [canon, List.range, List.range.loop, List.foldl]
      refine wpAny_last 10 (by kernel_rfl) ?_
      refine wpOp_go rfl rfl ?_
      go_simp
      have hdr : Below wr.heap.size wr wr.drew := bel_drew (Below.refl _ _)
      obtain ⟨part, xs, ps, ho, hrow, hps, hpl, hfl, hall⟩ := hK.out.1.own
      obtain ⟨cur, hcur, hcs, hct⟩ := ho.blk
      have hmost := ho.most
      unfold maxLen at hmost
      have hgD : ¬ D gb := fun h => by have h1 := HH.out.1.old _ _ HH.out.2 gb h; have h2 := ho.lo; omega
      refine (HH.out.1.read (fs + nb) wr.drew gb _ cur nb (cb - nb) (cb - nb) (HH.out.1.below hK.out.1.src hdr) hgD (blk_keep hcur hdr) (by have := HNC.out; omega) (Nat.le_refl _) (by have := HNC.out; omega) (by omega)).mono ?_
      rintro e w3 ⟨j, v, hj, rfl, hv, h1, h2, h3⟩
      have hst := hK.out.1.read (fun x hx => HH.out.1.old _ _ HH.out.2 x (HH.out.1.own x hx)) hcur hj h1 h2 ((Ex.of_below hdr).trans h3)
      obtain ⟨n2, hn2⟩ : ∃ n2, n2 = nb + j := ⟨_, rfl⟩
      rw [← hn2] at hst
      have hlim : nb + j ≤ 9223372036854775807 := by omega
      have hcut2 : ∀ W : World, (Instr.slice 67 (.slice (some ⟨gb, 0, none⟩) nb cb) none (some (.int .i64 ((nb : Int) + (j : Int)))) none).run Tryz.prog W = .ok (.slice (some ⟨gb, 0, none⟩) n2 cb) W := fun W => by
        have h := cut_hi 67 .i64 Tryz.underlying67 gb nb cb (nb + j) (by omega) W
        rw [hn2]; exact h
      have HST3 := Kp.mk (And.intro hst (And.intro hj (And.intro hn2 hv)))
      clear hst hj hn2 hv h1 h2 h3 hgD hmost hcur hcs hct ho hrow hps hpl hfl hall hdr
      refine wpAny_restR (fun u u' => u = u') (fun _ => rfl) (fun _ _ _ h k => h.trans k) 11 16 rfl (by decide) (apart_of (by kernel_rfl)) (by kernel_rfl) (raR' j v) (fun _ _ _ _ h _ => by unfold raR' at *; exact h) ?_ ?_ ?_
      · intro i hi
        rcases i with _ | _ | _ | _ | _ | _ | _ | _ | _ | _ | _ | i
        all_goals first | trivial | rfl | omega
      · intro j hkj hj ob ho vs w2 hb hpre
        subst hb
        rcases j with _ | _ | _ | _ | _ | _ | _ | _ | _ | _ | _ | _ | _ | _ | _ | _ | j
        iterate 11 (· omega)
        · have e10 : vs 10 = _ := hpre 10 (by decide) (by obtain rfl := Option.some.inj ho; rfl)
          obtain rfl := Option.some.inj ho
          simp only [canon, List.range, List.range.loop, List.foldl]
          go_simp
          all_goals first | rfl | exact ⟨rfl, rfl⟩ | trivial
        · have e11 : vs 11 = _ := hpre 11 (by decide) (by obtain rfl := Option.some.inj ho; rfl)
          obtain rfl := Option.some.inj ho
          simp only [canon, List.range, List.range.loop, List.foldl]
          go_simp
          all_goals first | rfl | exact ⟨rfl, rfl⟩ | trivial
        · have e11 : vs 11 = _ := hpre 11 (by decide) (by obtain rfl := Option.some.inj ho; rfl)
          obtain rfl := Option.some.inj ho
          simp only [canon, List.range, List.range.loop, List.foldl]
          go_simp
          all_goals first | rfl | exact ⟨rfl, rfl⟩ | trivial
        · have e12 : vs 12 = _ := hpre 12 (by decide) (by obtain rfl := Option.some.inj ho; rfl)
          obtain rfl := Option.some.inj ho
          simp only [canon, List.range, List.range.loop, List.foldl]
          go_simp
          all_goals first | rfl | exact ⟨rfl, rfl⟩ | trivial
        · have e13 : vs 13 = _ := hpre 13 (by decide) (by obtain rfl := Option.some.inj ho; rfl)
          obtain rfl := Option.some.inj ho
          simp only [canon, List.range, List.range.loop, List.foldl]
          go_simp
          all_goals first | rfl | exact ⟨rfl, rfl⟩ | trivial
        · omega
      · intro vs w2 hb hr
        subst hb
        have e11 : vs 11 = _ := hr 11 (by omega)
        have e12 : vs 12 = _ := hr 12 (by omega)
        have e13 : vs 13 = _ := hr 13 (by omega)
        have e14 : vs 14 = _ := hr 14 (by omega)
        have e15 : vs 15 = _ := hr 15 (by omega)
        simp only [canon, List.range, List.range.loop, List.foldl]
        rw [e11, e12, e13, e14, e15]
        rcases HST3.out.2.2.2 with ⟨rfl, hj0⟩ | ⟨rfl, hjm⟩
        · clear hr e12 e13 e14 e15
          have HJ0 := Kp.mk hj0
          clear hj0
          have hn2c : n2 ≤ cb ∧ cb ≤ 9223372036854775807 := HST3.out.1.nbc
          have hfl : fs + n2 ≤ bs.length := HST3.out.1.le
          obtain ⟨r, hrr⟩ : ∃ r, r = cb - n2 := ⟨_, rfl⟩
          obtain ⟨d, hdd⟩ : ∃ d, d = cb / 16 := ⟨_, rfl⟩
          have qr : wrap64 ((cb : Int) - (n2 : Int)) = (r : Int) := by unfold wrap64; omega
          have qd : wrap64 ((cb : Int) / 16) = (d : Int) := by unfold wrap64; omega
          have HRD := Kp.mk (And.intro hrr (And.intro hdd (And.intro hn2c hfl)))
          clear hn2c hfl hrr hdd
          by_cases hrd : r < d
          · obtain ⟨part, xs, ps, ho, hrow, hps, hpl, hfl, hall⟩ := HST3.out.1.own
            have hb4 := bel_alloc (Below.refl w3.heap.size w3) (.cells #[.slice (some ⟨gb, 0, none⟩) n2 cb] 67)
            have hrow4 := ownsRow_heap hrow (fun g cur _ hg => hb4.block g (Array.getElem?_eq_some_iff.1 hg).1)
            have hbase : w.heap.size ≤ (w3.alloc (.cells #[.slice (some ⟨gb, 0, none⟩) n2 cb] 67)).heap.size := Nat.le_trans HST3.out.1.ex.size hb4.size
            have hkk : kk ≤ 1099511627776 := by have h1 := HST3.out.1.few; have h2 := HST3.out.1.le; have h3 := HL.out; omega
            have KA := Kp.mk (And.intro hrow4 (And.intro hbase (And.intro hb4 (show ∃ part ps, OwnB w3 w.heap.size gb n2 cb part ∧ w3.ownsRow w.heap.size 67 1 (.slice (some ⟨gl, 0, none⟩) kk cl) kk xs ∧ PartsB w3 w.heap.size gb xs ps ∧ ps.length = kk ∧ ps.flatten.length = fs ∧ ps.flatten ++ part = bs.take (fs + n2) from ⟨part, ps, ho, hrow, hps, hpl, hfl, hall⟩))))
            have HKK := Kp.mk hkk
            clear ho hrow hps hpl hfl hall hb4 hrow4 hbase hkk part
            go_simp
            go_wp2_with (at_builtin; refine wpList_append_own _ rfl _ _ 123 rfl w.heap.size 67 i0 (.slice none 0 0) 1 24 Tryz.underlying123 HI.out.1 HI.out.2.1 HI.out.2.2.1 HI.out.2.2.2 rfl (by decide) _ _ _ rfl KA.out.1 ⟨w3.heap.size, 0, none⟩ 1 1 [.slice (some ⟨gb, 0, none⟩) n2 cb] rfl rfl ?c1 ?c2 ?c3 ?c4 KA.out.2.1 ?_)
            case c2 => first | rfl | (intro u hu; simp at hu; subst hu; rfl)
            case c3 => unfold maxLen; have := HKK.out; omega
            case c4 => have := HKK.out; omega
            intro v5 w5 hown5 hgrow5 _
            obtain ⟨gl5, cl5, rfl⟩ : ∃ g c, v5 = .slice (some ⟨g, 0, none⟩) (kk + 1) c := by
              rcases hown5.2 with ⟨_, h⟩ | ⟨g, cap, cur, rfl, _⟩
              · omega
              · exact ⟨g, cap, rfl⟩
            have hnx := HST3.out.1.nx
            obtain ⟨c6, w6, hap, hb6, hc6, hc6m, cur6, hcur6, hcs6⟩ := app_zeros 67 3 67 .i64 Tryz.underlying67 Tryz.underlying3 .i64 nx (by omega) (by have := HL.out; have := HST3.out.1.le; omega) w5
            have hcut0 : ∀ W : World, (Instr.slice 67 (.slice (some ⟨w5.heap.size, 0, none⟩) nx c6) none (some (.int .i64 0)) none).run Tryz.prog W = .ok (.slice (some ⟨w5.heap.size, 0, none⟩) 0 c6) W := fun W => cut_hi 67 .i64 Tryz.underlying67 w5.heap.size nx c6 0 (by omega) W
            have HAP := Kp.mk hap
            have HGR : Kp (w3.heap.size ≤ w5.heap.size ∧ (∀ g, g < w3.heap.size → (∀ cu, w3.heap[g]? ≠ some (.cells cu 67 (0, 0))) → w5.heap[g]? = w3.heap[g]?) ∧ Ex O w w5 ∧ Ex (fun x => w.heap.size ≤ x) w3 w5) := ⟨by
              obtain ⟨hrow4, hbase, hb4, _⟩ := KA.out
              have hsz := Nat.le_trans hb4.size hgrow5.size
              have hx5 : Ex (fun x => some x = Value.ownBlock (.slice (some ⟨gl, 0, none⟩) kk cl)) (w3.alloc (.cells #[.slice (some ⟨gb, 0, none⟩) n2 cb] 67)) w5 := ⟨hgrow5.os, hgrow5.tape, hgrow5.output, hgrow5.size, fun k hk hne => hgrow5.block k hk hne⟩
              refine ⟨hsz, fun g hg hno => (hgrow5.block g (Nat.lt_of_lt_of_le hg hb4.size) (fun e => ?_)).trans (hb4.block g hg), HST3.out.1.ex.after (Ex.of_below hb4 (P := O)) (fun _ _ h => h) |>.after hx5 (fun k hk hx => ?_), (Ex.of_below hb4).trans (hx5.mono (fun x hx => (hrow4.lt x hx.symm).1))⟩
              · obtain ⟨part, ps, _, hrow, _⟩ := KA.out.2.2.2
                rcases hrow.2 with ⟨h, _⟩ | ⟨g', cap, cur, h, _, hg', _⟩
                · cases h
                · injection h with h1
                  injection h1 with h1
                  injection h1 with h1
                  subst h1
                  have : g = gl := by simpa [Value.ownBlock] using e
                  subst this
                  exact hno cur hg'
              · have := (hrow4.lt k hx.symm).1
                omega⟩
            have HK6 := Kp.mk (And.intro hown5 (And.intro hb6 (And.intro hc6 (And.intro hc6m (And.intro hcur6 (And.intro hcs6 hnx))))))
            have hsum : fs + n2 ≤ 9223372036854775807 := by have := HL.out; have := HST3.out.1.le; omega
            have hnxs : nx + nx / 2 ≤ 9223372036854775807 := by have := HL.out; have := HST3.out.1.le; omega
            obtain ⟨g6, hg6⟩ : ∃ g6, g6 = w5.heap.size := ⟨_, rfl⟩
            simp only [← hg6] at hcut0
            have HG6 := Kp.mk hg6
            clear hown5 hgrow5 hap hb6 hc6 hc6m hcur6 hcs6 hnx hg6
            go_wp2_with (at_builtin; refine Lib.wpList_append_run _ rfl _ _ _ _ rfl _ _ rfl rfl _ _ HAP.out ?_; rw [← HG6.out])
            go_roundw
            case rel =>
              have hDn : ∀ x, D x → x < w.heap.size := fun x hx => HH.out.1.old _ _ HH.out.2 x hx
              have hx6 : Ex (fun x => ¬ D x) w3 w6 := (HGR.out.2.2.2.mono (fun x hx hd => by have := hDn x hd; omega)).trans (Ex.of_below HK6.out.2.1)
              have hnext := HST3.out.1.next (by have := HRD.out; omega) KA.out.2.2.2 HK6.out.1 HGR.out.2.1 HGR.out.2.2.1 HGR.out.1 HK6.out.2.1 HK6.out.2.2.2.2.1 HK6.out.2.2.2.2.2.1 HK6.out.2.2.1 HK6.out.2.2.2.1 (HH.out.1.frame _ _ _ HST3.out.1.src hx6)
              rw [← HG6.out] at hnext
              exact ⟨g6, 0, c6, nx + nx / 2, fs + n2, kk + 1, gl5, cl5, rfl, by go_num, rfl, by go_num, ⟨hnext, by omega⟩⟩
            case measure => simp only [intOf, slLen]; have h1 := HST3.out.2.2.1; have h2 := HJ0.out; have h3 := HRD.out.2.2.2; omega
          · go_simp
            go_wp2_with fail
            go_roundw
            case rel => exact ⟨gb, n2, cb, nx, fs, kk, gl, cl, rfl, rfl, rfl, rfl, ⟨HST3.out.1, by have := HRD.out; omega⟩⟩
            case measure => simp only [intOf, slLen]; have h1 := HST3.out.2.2.1; have h2 := HJ0.out; have h3 := HRD.out.2.2.2; omega
        · have HJM := Kp.mk hjm
          have hve : w3.cell? ⟨0, 0, none⟩ = some (.iface Te ue) := (HH.out.1.errs _ _ HST3.out.1.src).eof
          clear hjm hr e12 e13 e14 e15
          have hend : fs + n2 = bs.length := by have h1 := HST3.out.2.1; have h2 := HST3.out.2.2.1; have h3 := HJM.out; have h4 := hK.out.1.le; omega
          have HEND := Kp.mk hend
          by_cases hk0 : kk = 0
          · subst hk0
            clear hend
            go_simp
            go_wp2_with fail
            go_ret2
            obtain ⟨hnb, hown⟩ := HST3.out.1.one HEND.out
            rw [hnb]
            exact ⟨gb, cb, rfl, hown, HEND.out ▸ HST3.out.1.src, HST3.out.1.ex⟩
          · have hkk0 : ((kk : Int) == 0) = false := beq_eq_false_iff_ne.2 (by omega)
            have hsum : fs + n2 ≤ 9223372036854775807 := by have := HL.out; omega
            have hfs0 : 0 < fs := by have h1 := HST3.out.1.few; omega
            obtain ⟨part, xs, ps, ho, hrow, hps, hpl, hfl, hall⟩ := HST3.out.1.own
            obtain ⟨N, hN⟩ : ∃ N, N = fs + n2 := ⟨_, rfl⟩
            obtain ⟨cF, wF, hapF, hbF, hcF, hcFm, curF, hcurF, hcsF⟩ := app_zeros 67 3 67 .i64 Tryz.underlying67 Tryz.underlying3 .i64 N (by omega) (by have := HL.out; omega) w3
            have hapN : (Builtin.append_ #[67, 3] 67 #[.slice none 0 0, .int .i64 ((fs : Int) + (n2 : Int))]).run Tryz.prog w3 = .ok (.slice (some ⟨w3.heap.size, 0, none⟩) N cF) wF := by
              rw [show (fs : Int) + (n2 : Int) = ((N : Nat) : Int) by omega]
              exact hapF
            obtain ⟨gF, hgF⟩ : ∃ gF, gF = w3.heap.size := ⟨_, rfl⟩
            have hcutF : ∀ W : World, (Instr.slice 67 (.slice (some ⟨gF, 0, none⟩) N cF) none (some (.int .i64 0)) none).run Tryz.prog W = .ok (.slice (some ⟨gF, 0, none⟩) 0 cF) W := fun W => cut_hi 67 .i64 Tryz.underlying67 gF N cF 0 (by omega) W
            rw [← hgF] at hapN hcurF
            have HAPN := Kp.mk hapN
            have HF0 : Kp (OwnB wF w3.heap.size gF 0 cF [] ∧ Below w3.heap.size w3 wF) := ⟨ownB_new hcurF hcsF (by omega) hcFm, hbF⟩
            have HPS := Kp.mk (And.intro ho (And.intro hrow (And.intro hps (And.intro hpl (And.intro hfl (And.intro hall (And.intro hN (And.intro hgF hfs0))))))))
            clear hend ho hrow hps hpl hfl hall hN hapF hbF hcF hcFm hcurF hcsF hapN hgF hfs0
            go_simp
            go_wp2_with (at_builtin; refine Lib.wpList_append_run _ rfl _ _ _ _ rfl _ _ rfl rfl _ _ HAPN.out ?_)
            go_loopw [10, 54] (fun vf vi wq => ∃ gf n cf i : Nat, vf = .slice (some ⟨gf, 0, none⟩) n cf ∧ vi = .int .i64 i ∧ i ≤ kk ∧ Kp (OwnB wq w3.heap.size gf n cf (ps.take i).flatten ∧ Below w3.heap.size w3 wq))
              (fun _ vi _ => kk - (intOf vi).toNat)
            case atStart => exact ⟨_, _, _, 0, rfl, rfl, Nat.zero_le _, ⟨by rw [List.take_zero]; exact HF0.out.1, HF0.out.2⟩⟩
            case round =>
              obtain ⟨gf, n, cf, i, rfl, rfl, hik0, hJ⟩ := hrel
              by_cases hik : i < kk
              · obtain ⟨p, hp⟩ : ∃ p, ps[i]? = some p := ⟨_, List.getElem?_eq_getElem (by have := HPS.out.2.2.2.1; omega)⟩
                obtain ⟨g, c, hx, hog, _⟩ := HPS.out.2.2.1.2 i p hp
                have hcell : wr.cell? ⟨gl, i, none⟩ = some (.slice (some ⟨g, 0, none⟩) p.length c) := by
                  have h1 := HPS.out.2.1.cells (g := gl) rfl i _ hx
                  rw [add_plain, Nat.zero_add] at h1
                  exact cell_bel hJ.out.2 h1
                have hog2 := hog.below hJ.out.2
                have hpfl : (ps.take i).flatten.length + p.length ≤ fs := by
                  have h1 : (ps.take (i + 1)).flatten = (ps.take i).flatten ++ p := by rw [List.take_add_one, hp]; simp
                  have h2 : (ps.take (i + 1) ++ ps.drop (i + 1)).flatten.length = fs := by rw [List.take_append_drop]; exact HPS.out.2.2.2.2.1
                  rw [List.flatten_append, List.length_append, h1, List.length_append] at h2
                  omega
                have hnl := hJ.out.1.len
                have KA := Kp.mk (And.intro hJ.out.1.row (And.intro hog2 (And.intro hp (And.intro (show n + p.length ≤ fs by omega) (Nat.le_trans hJ.out.1.lo (Nat.le_of_lt hJ.out.1.lt))))))
                have hbw : w3.heap.size ≤ wr.heap.size := hJ.out.2.size
                have HBW := Kp.mk hbw
                have hkkb : kk ≤ 1099511627776 := by have h1 := HST3.out.1.few; have h2 := HST3.out.1.le; have h3 := HL.out; omega
                clear hx hog hog2 hpfl hnl hp hbw
                go_simp
                go_wp2_with (at_builtin; refine wpList_append_own _ rfl _ _ 67 rfl w3.heap.size 5 iu (.int .u8 0) 1 1 Tryz.underlying67 HIU.out.1 HIU.out.2.1 HIU.out.2.2.1 HIU.out.2.2.2 rfl (by decide) (.slice (some ⟨gf, 0, none⟩) n cf) _ _ rfl KA.out.1 ⟨g, 0, none⟩ p.length c (Lib.byteCells p) rfl ?d0 ?d1 ?d2 ?d3 ?d4 HBW.out ?_)

                case d0 => rw [Lib.byteCells_length, Nat.mul_one]
                case d1 =>
                  intro jj u hj
                  rw [add_plain, Nat.zero_add]
                  obtain ⟨hlt, h1⟩ := List.getElem?_eq_some_iff.1 hj
                  rw [Lib.byteCells_length] at hlt
                  obtain ⟨g', o', e', hc'⟩ := KA.out.2.1.rd.lies (by omega)
                  have e2 := Option.some.inj e'
                  simp only [Addr.mk.injEq] at e2
                  obtain ⟨rfl, rfl, _⟩ := e2
                  have h2 := hc' jj hlt
                  rw [Nat.zero_add] at h2
                  rw [h2, ← h1]
                  simp [Lib.byteCells]
                case d2 =>
                  first
                    | (intro u hu
                       obtain ⟨b, _, rfl⟩ := List.mem_map.1 hu
                       rfl)
                    | trivial
                case d3 => unfold maxLen; have h1 := KA.out.2.2.2.1; have h2 := HST3.out.1.le; have h3 := HL.out; omega
                case d4 => have h1 := KA.out.2.2.2.1; have h2 := HST3.out.1.le; have h3 := HL.out; omega
                intro v5 w5 hown5 hgrow5 hnil5
                have hfn : (ps.take (i + 1)).flatten = (ps.take i).flatten ++ p := by rw [List.take_add_one, KA.out.2.2.1]; simp
                rw [show Lib.byteCells (ps.take i).flatten ++ Lib.byteCells p = Lib.byteCells (ps.take (i + 1)).flatten by rw [hfn]; simp [Lib.byteCells]] at hown5
                obtain ⟨g5, c5, rfl, h5⟩ := ownB_of hown5 (fun e => hnil5 e)
                have KE : Kp (OwnB w5 w3.heap.size g5 (n + p.length) c5 (ps.take (i + 1)).flatten ∧ Below w3.heap.size w3 w5) := ⟨h5, hJ.out.2.grown hgrow5 HBW.out (fun q hq => (KA.out.1.lt q hq).1)⟩
                clear hown5 hgrow5 hnil5 hfn h5 hcell
                go_wp2
                refine ⟨⟨.slice (some ⟨g5, 0, none⟩) (n + p.length) c5, .slice (some ⟨g, 0, none⟩) p.length c, .int .i64 ((i : Int) + 1), ⟨g5, n + p.length, c5, rfl, i + 1, by go_num, by omega, KE⟩, _, _, _, _, _, _, _, rfl⟩, ?_⟩
                change kk - (intOf (.int .i64 ((i : Int) + 1))).toNat < kk - (intOf (.int .i64 (i : Int))).toNat
                simp only [intOf]; omega
              · obtain rfl : i = kk := by omega
                have hnl := hJ.out.1.len
                have htk : ps.take i = ps := List.take_of_length_le (by have := HPS.out.2.2.2.1; omega)
                rw [htk, HPS.out.2.2.2.2.1] at hnl
                have KA := Kp.mk (And.intro hJ.out.1.row (And.intro (HPS.out.1.below hJ.out.2) (And.intro hnl htk)))
                have HBW : Kp (w3.heap.size ≤ wr.heap.size) := ⟨hJ.out.2.size⟩
                clear hnl htk
                go_simp
                go_wp2_with (at_builtin; refine wpList_append_own _ rfl _ _ 67 rfl w3.heap.size 5 iu (.int .u8 0) 1 1 Tryz.underlying67 HIU.out.1 HIU.out.2.1 HIU.out.2.2.1 HIU.out.2.2.2 rfl (by decide) (.slice (some ⟨gf, 0, none⟩) n cf) _ _ rfl KA.out.1 ⟨gb, 0, none⟩ n2 cb (Lib.byteCells part) rfl ?f0 ?f1 ?f2 ?f3 ?f4 HBW.out ?_)

                case f0 => rw [Lib.byteCells_length, Nat.mul_one]; exact KA.out.2.1.len
                case f1 =>
                  intro jj u hj
                  rw [add_plain, Nat.zero_add]
                  obtain ⟨hlt, h1⟩ := List.getElem?_eq_some_iff.1 hj
                  rw [Lib.byteCells_length] at hlt
                  obtain ⟨g', o', e', hc'⟩ := KA.out.2.1.rd.lies (by have := KA.out.2.1.len; omega)
                  have e2 := Option.some.inj e'
                  simp only [Addr.mk.injEq] at e2
                  obtain ⟨rfl, rfl, _⟩ := e2
                  have h2 := hc' jj hlt
                  rw [Nat.zero_add] at h2
                  rw [h2, ← h1]
                  simp [Lib.byteCells]
                case f2 =>
                  intro u hu
                  obtain ⟨b, _, rfl⟩ := List.mem_map.1 hu
                  rfl
                case f3 => unfold maxLen; have h1 := KA.out.2.2.1; have h2 := HST3.out.1.le; have h3 := HL.out; omega
                case f4 => have h1 := KA.out.2.2.1; have h2 := HST3.out.1.le; have h3 := HL.out; omega
                intro v5 w5 hown5 hgrow5 hnil5
                rw [show Lib.byteCells (ps.take i).flatten ++ Lib.byteCells part = Lib.byteCells bs by
                  have h1 : ps.flatten ++ part = bs := by rw [HPS.out.2.2.2.2.2.1, HEND.out, List.take_length]
                  rw [KA.out.2.2.2, ← h1]; simp [Lib.byteCells]] at hown5
                obtain ⟨g5, c5, rfl, h5⟩ := ownB_of hown5 (fun e => hnil5 e)
                have hnn : n + n2 = bs.length := by have h1 := KA.out.2.2.1; have h2 := HEND.out; omega
                have hb5 : Below w3.heap.size w3 w5 := hJ.out.2.grown hgrow5 HBW.out (fun q hq => (KA.out.1.lt q hq).1)
                rw [hnn] at h5 ⊢
                have KE : Kp (RaEndA w bs O S (.returned (.tuple #[.slice (some ⟨g5, 0, none⟩) bs.length c5, .nilIface])) w5) := ⟨g5, c5, rfl, ⟨h5.len, Nat.le_trans HST3.out.1.ex.size h5.lo, h5.cap, h5.most, h5.blk⟩, HEND.out ▸ HH.out.1.below HST3.out.1.src hb5, HST3.out.1.ex.trans (Ex.of_below hb5)⟩
                clear hown5 hgrow5 hnil5 h5 hb5
                go_wp2_with fail
                go_ret2
                exact KE.out

end Go.Proofs.YtkcpgcaccgahaaaGreatDoor
