/- Words that the walks share: a slice of bytes that is read; frames. No function of the program. -/
import Derived.Test.YtkcpgcaccgahaaaGreatDoorProg
import Derived.Below
import Derived.Deep.Draws
import Derived.OwnWalk
import Derived.Laws.MakeOwn
import Derived.Laws.OwnMore
import Derived.Tactics
import Derived.Lib.ConvBytes
import Derived.Lib.VarintMem
import Derived.Laws.Slices
import Derived.Laws.BytesString
import Derived.Laws.BytesArg
import Derived.WalkKit
import Derived.KernelRfl
import Derived.RowKit3
import Derived.Deep.LoopGhost
import Derived.Deep.QuietTactic
import Derived.BigQuiet
import Derived.WideLaws
import Derived.WalkLawsBesides
import Derived.WalkSpells
import Derived.Deep.DeepCutAuto
import Derived.Deep.RegionHeld3
import Derived.Deep.DeepFit
import Derived.IntWalk
namespace Go.Proofs.YtkcpgcaccgahaaaGreatDoor
open Go.RowKit

/-- A fact that the walk does not look into. -/
structure Kp (p : Prop) : Prop where mk :: (out : p)

theorem bel_alloc {w W : World} (h : Below w.heap.size w W) (o : Obj) : Below w.heap.size w (W.alloc o) := h.alloc h.size o
theorem bel_drew {B : Nat} {w W : World} (h : Below B w W) : Below B w W.drew := ⟨h.os, h.tape, h.output, h.size, h.block⟩
theorem bel_drewN {B : Nat} {w W : World} (h : Below B w W) (n : Nat) : Below B w (W.drewN n) := ⟨h.os, h.tape, h.output, h.size, h.block⟩
theorem bel_then {w w1 w2 : World} (h : Below w.heap.size w w1) (k : Below w1.heap.size w1 w2) : Below w.heap.size w w2 := h.trans (k.mono h.size)
theorem bel_bytes {w W : World} (h : Below w.heap.size w W) (e : TypeId) (s : ByteArray) : Below w.heap.size w (Lib.bytesWorld W e s) :=
  h.trans ⟨rfl, rfl, rfl, by rw [Lib.bytesWorld_size]; omega, fun i hi => Lib.bytesWorld_at_old W e s i (by have := h.size; omega)⟩
theorem cell_bel {w w1 : World} (h : Below w.heap.size w w1) {a : Addr} {v : Value} (hc : w.cell? a = some v) : w1.cell? a = some v :=
  (h.cell (World.block_lt_of_cell? w a hc)).trans hc

theorem add_plain (g o j : Nat) : (⟨g, o, none⟩ : Addr).add j = ⟨g, o + j, none⟩ := by unfold Addr.add; split <;> simp_all

/-- The bytes of a string, as a list. -/
def bl (s : ByteArray) : List UInt8 := s.data.toList
theorem bl_length (s : ByteArray) : (bl s).length = s.size := by unfold bl; rw [Array.length_toList]; rfl

/-- A slice that reads as these bytes: where there is one, it lies in a block. -/
structure RdB (w : World) (A : Option Addr) (n c : Nat) (bs : List UInt8) : Prop where
  len : bs.length = n
  cap : n ≤ c
  most : c ≤ 9223372036854775807
  lies : 0 < n → ∃ g o, A = some ⟨g, o, none⟩ ∧ ∀ i (h : i < bs.length), w.cell? ⟨g, o + i, none⟩ = some (.int .u8 bs[i].toNat)

theorem RdB.below {w w1 : World} {A : Option Addr} {n c : Nat} {bs : List UInt8} (h : RdB w A n c bs) (hb : Below w.heap.size w w1) : RdB w1 A n c bs :=
  ⟨h.len, h.cap, h.most, fun h0 => by
    obtain ⟨g, o, e, hc⟩ := h.lies h0
    exact ⟨g, o, e, fun i hi => cell_bel hb (hc i hi)⟩⟩

theorem grownCap_ge (w : World) (n : Nat) (e : TypeId) : n ≤ grownCap w n 0 e := by
  unfold grownCap Question.cut; simp only; omega
theorem grownCap_lt (w : World) (n : Nat) (e : TypeId) (h : n < 2 ^ 63) : grownCap w n 0 e < 2 ^ 63 := by
  unfold grownCap Question.cut
  have := Nat.mod_lt (w.tape w.drawn (.appendCap n 0 e)) (show 0 < 2 ^ 63 - n by omega)
  simp only
  omega

/-- '[]byte(s)'. -/
theorem rd_bytes (W : World) (e : TypeId) (s : ByteArray) (hs : s.size < 2 ^ 63) : RdB (Lib.bytesWorld W e s) (some ⟨W.heap.size, 0, none⟩) s.size (grownCap W s.size 0 e) (bl s) := by
  refine ⟨bl_length s, grownCap_ge W _ e, by have := grownCap_lt W _ e hs; omega, fun _ => ⟨_, _, rfl, fun i hi => ?_⟩⟩
  rw [bl_length] at hi
  rw [show 0 + i = i from by omega, Lib.bytesWorld_cell W e s i hi]
  have h' : i < s.data.toList.length := by rw [Array.length_toList]; exact hi
  simp only [bl, List.getD_eq_getElem?_getD, List.getElem?_eq_getElem h', Option.getD_some]

/-- The string of these bytes. -/
def strB (bs : List UInt8) : ByteArray := ⟨bs.toArray⟩
theorem bl_strB (bs : List UInt8) : bl (strB bs) = bs := by simp [bl, strB]
theorem strB_bl (s : ByteArray) : strB (bl s) = s := by simp [bl, strB]
theorem strB_size (bs : List UInt8) : (strB bs).size = bs.length := by simp [strB, ByteArray.size]

theorem strOfNums_bytes (bs : List UInt8) : strOfNums (bs.map fun b => (b.toNat : Int)) = strB bs := by
  unfold strOfNums strB
  congr 1
  apply Array.ext'
  simp [List.map_map, Function.comp_def]

/-- 'string(b)'. -/
theorem rd_string {w : World} {A : Option Addr} {n c : Nat} {bs : List UInt8} (h : RdB w A n c bs) (src dst : TypeId) (hs : Tryz.prog.underlying src = some (.slice 5)) (hd : Tryz.prog.underlying dst = some .string) :
    (convert src dst (.slice A n c)).run Tryz.prog w = .ok (.string (strB bs)) w := by
  by_cases h0 : 0 < n
  · obtain ⟨g, o, rfl, hc⟩ := h.lies h0
    have hl := h.len
    rw [← strOfNums_bytes]
    refine run_convert_bytes_arg w src 5 hs Tryz.underlying5 g o n c _ (by simp [hl]) (fun i hi => ?_) dst hd
    rw [hc i (by omega)]
    simp [List.getElem?_eq_getElem (show i < bs.length by omega)]
  · obtain rfl : n = 0 := by omega
    have hb : bs = [] := List.eq_nil_of_length_eq_zero h.len
    subst hb
    rw [run_convert_bytes_string w src dst _ _ _ _ hs Tryz.underlying5 hd]
    cases A with
    | none => simp [Conv.bytesToString, strB, ByteArray.empty, ByteArray.emptyWithCapacity]; rfl
    | some a =>
      have hl := run_loadCells_list (P := Tryz.prog) w a [] (fun j v hj => by simp at hj)
      simp at hl
      simp [Conv.bytesToString, hl, strB, ByteArray.empty, ByteArray.emptyWithCapacity]; rfl

theorem info_u8 : (Tryz.prog.info? 5).map (fun i => (i.zero, i.size, i.bytes)) = some (some (.int .u8 0), 1, 1) := by kernel_rfl

/-- A row of bytes 0, n long. -/
def zeros (n : Nat) : Array Value := (List.replicate n (Value.int .u8 0)).toArray
theorem zeros_size (n : Nat) : (zeros n).size = n := by simp [zeros]
theorem zeros_at (n j : Nat) (h : j < n) : (zeros n)[j]? = some (.int .u8 0) := by simp [zeros, h]

/-- 'make([]byte, n)'. -/
theorem mk_bytes (t : TypeId) (ht : Tryz.prog.underlying t = some (.slice 5)) (n : Nat) (hn : n ≤ 140737488355328) (W : World) :
    (Instr.makeSlice t (.int .i64 (n : Int)) (.int .i64 (n : Int))).run Tryz.prog W = .ok (.slice (some ⟨W.heap.size, 0, none⟩) n n) (W.alloc (.cells (zeros n) 5)) := by
  obtain ⟨i, hi, hz, hs, hb⟩ := info_parts info_u8
  have h := run_make (P := Tryz.prog) W t 5 i _ ht hi hz .i64 .i64 (n : Int) (n : Int) (by omega) (by omega) (by rw [hb]; omega) (by omega)
  simp only [Int.toNat_natCast, hs, Nat.mul_one] at h
  have hm : madeCells (Value.cells (.int .u8 0)) n = zeros n := by
    apply Array.ext
    · rw [size_madeCells, zeros_size]
    · intro j h1 h2
      simp [madeCells, zeros, Value.cells, Nat.mod_one]
  rw [hm] at h
  exact h

/-- A block that was laid ahead of a call lies as it was laid. -/
theorem blk_new {w w1 : World} {o : Obj} (h : Below (w.alloc o).heap.size (w.alloc o) w1) : w1.heap[w.heap.size]? = some o := by
  rw [h.block _ (by simp [World.alloc, -World.alloc_eq])]
  simp [World.alloc, -World.alloc_eq]
theorem blk_new2 {w w1 : World} {o o2 : Obj} (h : Below ((w.alloc o).alloc o2).heap.size ((w.alloc o).alloc o2) w1) : w1.heap[w.heap.size + 1]? = some o2 := by
  have := blk_new (w := w.alloc o) h
  simpa [World.alloc, -World.alloc_eq] using this
theorem blk_keep {w w1 : World} {g : Nat} {o : Obj} (h : w.heap[g]? = some o) (hb : Below w.heap.size w w1) : w1.heap[g]? = some o :=
  (hb.block g (Array.getElem?_eq_some_iff.1 h).1).trans h
theorem blk_cell {w : World} {g : Nat} {t : TypeId} {cs : Array Value} (h : w.heap[g]? = some (.cells cs t (0, 0))) (i : Nat) : w.cell? ⟨g, i, none⟩ = cs[i]? := by
  simp [World.cell?, h]
theorem blk_frozen {w : World} {g : Nat} {t : TypeId} {cs : Array Value} (h : w.heap[g]? = some (.cells cs t (0, 0))) (i : Nat) : w.frozen? ⟨g, i, none⟩ = false := by
  simp [World.frozen?, h]
theorem blk_set {w : World} {g : Nat} {t : TypeId} {cs : Array Value} (h : w.heap[g]? = some (.cells cs t (0, 0))) (i : Nat) (u : Value) : (w.setCell ⟨g, i, none⟩ u).heap[g]? = some (.cells (cs.setIfInBounds i u) t (0, 0)) := by
  simp [World.setCell, h, Array.getElem?_modify]
theorem blk_far {w : World} {g : Nat} {o : Obj} (h : w.heap[g]? = some o) {p : Addr} (hp : g ≠ p.block) (u : Value) : (w.setCell p u).heap[g]? = some o := (Below.heap_setCell w p u g hp).trans h
theorem bel_set {w W : World} (h : Below w.heap.size w W) {p : Addr} (hp : w.heap.size ≤ p.block) (u : Value) : Below w.heap.size w (W.setCell p u) := h.setCell hp u
theorem bel_new2 {w w1 : World} {o o2 : Obj} (h : Below ((w.alloc o).alloc o2).heap.size ((w.alloc o).alloc o2) w1) : Below w.heap.size w w1 := bel_then (bel_alloc (bel_alloc (Below.refl _ _) o) o2) h
theorem bel_new {w w1 : World} {o : Obj} (h : Below (w.alloc o).heap.size (w.alloc o) w1) : Below w.heap.size w w1 := bel_then (bel_alloc (Below.refl _ _) o) h

theorem RdB.drop {w : World} {A : Option Addr} {n c : Nat} {bs : List UInt8} (h : RdB w A n c bs) (m : Nat) (hm : m ≤ n) : RdB w (if c = m then A else A.map (·.add m)) (n - m) (c - m) (bs.drop m) := by
  have hl := h.len
  have hc := h.cap
  refine ⟨by rw [List.length_drop, hl], by omega, by have := h.most; omega, fun h0 => ?_⟩
  obtain ⟨g, o, rfl, hcell⟩ := h.lies (by omega)
  rw [if_neg (by omega)]
  refine ⟨g, o + m, by simp [add_plain], fun i hi => ?_⟩
  rw [List.length_drop] at hi
  have := hcell (m + i) (by omega)
  rw [show o + m + i = o + (m + i) by omega, this, List.getElem_drop]

/-- 'b[m:]': the address is a letter. -/
theorem rd_cut (t : TypeId) (kl : IntKind) (ht : Tryz.prog.underlying t = some (.slice 5)) (A : Option Addr) (n c m : Nat) (hm : m ≤ n) :
    ∃ A' : Option Addr, (∀ W : World, (Instr.slice t (.slice A n c) (some (.int kl (m : Int))) none none).run Tryz.prog W = .ok (.slice A' (n - m) (c - m)) W) ∧
      ∀ (w : World) (bs : List UInt8), RdB w A n c bs → RdB w A' (n - m) (c - m) (bs.drop m) := by
  obtain ⟨i, hi, _, hs, _⟩ := info_parts info_u8
  refine ⟨if c = m then A else A.map (·.add m), fun W => ?_, fun w bs h => h.drop m hm⟩
  have hel : Tryz.prog.elem t = 5 := by simp [Program.elem, ht]
  have hu : Tryz.prog.underlying t = some (.slice (Tryz.prog.elem t)) := by rw [hel]; exact ht
  rw [run_slice_l W t A n c hu kl (m : Int) (Int.natCast_nonneg _) (by omega), hel]
  simp [sizeOf, typeInfo, hi, hs, sliced, Result.andThen]

theorem RdB.take {w : World} {A : Option Addr} {n c : Nat} {bs : List UInt8} (h : RdB w A n c bs) (m : Nat) (hm : m ≤ n) : RdB w A m c (bs.take m) := by
  have hl := h.len
  have hc := h.cap
  refine ⟨by rw [List.length_take]; omega, by omega, h.most, fun h0 => ?_⟩
  obtain ⟨g, o, rfl, hcell⟩ := h.lies (by omega)
  refine ⟨g, o, rfl, fun i hi => ?_⟩
  rw [List.length_take] at hi
  rw [hcell i (by omega), List.getElem_take]

/-- 'b[:m]'. -/
theorem rd_to (t : TypeId) (kl : IntKind) (ht : Tryz.prog.underlying t = some (.slice 5)) (A : Option Addr) (n c m : Nat) (hm : m ≤ n) (hc : n ≤ c) :
    ∃ A' : Option Addr, (∀ W : World, (Instr.slice t (.slice A n c) none (some (.int kl (m : Int))) none).run Tryz.prog W = .ok (.slice A' m c) W) ∧
      ∀ (w : World) (bs : List UInt8), RdB w A n c bs → RdB w A' m c (bs.take m) := by
  obtain ⟨i, hi, _, hs, _⟩ := info_parts info_u8
  have hel : Tryz.prog.elem t = 5 := by simp [Program.elem, ht]
  have hu : Tryz.prog.underlying t = some (.slice (Tryz.prog.elem t)) := by rw [hel]; exact ht
  refine ⟨if c = 0 then A else A.map (·.add 0), fun W => ?_, fun w bs h => ?_⟩
  · rw [run_slice_h W t A n c hu kl (m : Int) (Int.natCast_nonneg _) (by omega), hel]
    simp [sizeOf, typeInfo, hi, hs, sliced, Result.andThen]
  · have ht := h.take m hm
    refine ⟨ht.len, ht.cap, ht.most, fun h0 => ?_⟩
    obtain ⟨g, o, rfl, hcell⟩ := ht.lies h0
    exact ⟨g, o, by simp [add_plain], hcell⟩

theorem results_tmp4 {fn : Func} {t u v x : Tmp} (h : fn.results = #[.tmp t, .tmp u, .tmp v, .tmp x]) (tmps : Array Value) (P : Program) (w : World) :
    (results fn tmps).run P w = .ok (.tuple #[tmps.getD t undef, tmps.getD u undef, tmps.getD v undef, tmps.getD x undef]) w := by
  simp [results, h]

theorem res_cell1 {P : Program} {fn : Func} {p : Tmp} {ty : TypeId} (h : fn.results = #[.cell p ty]) (tmps : Array Value) (w : World) (g : Nat) (t : TypeId) (cs : Array Value) (d : TypeDesc) (hp : tmps.getD p undef = .pointer (some ⟨g, 0, none⟩)) (hg : w.heap[g]? = some (.cells cs t (0, 0)))
    (hu : P.underlying ty = some d) (hd : (match d with | .struct _ | .array _ _ => true | _ => false) = true) (hi : (P.info? ty).map (·.size) = some cs.size) : (results fn tmps).run P w = .ok (.agg cs) w := by
  have hr := run_loadVar_row (P := P) w g t ty cs (0, 0) d hg hu hd hi
  have hp' : tmps[p]?.getD undef = .pointer (some ⟨g, 0, none⟩) := by rw [← hp, Array.getD_eq_getD_getElem?]
  simp [results, h, asAddr, hr, hp']
theorem res_cell2 {P : Program} {fn : Func} {p u : Tmp} {ty : TypeId} (h : fn.results = #[.cell p ty, .tmp u]) (tmps : Array Value) (w : World) (g : Nat) (t : TypeId) (cs : Array Value) (d : TypeDesc) (hp : tmps.getD p undef = .pointer (some ⟨g, 0, none⟩)) (hg : w.heap[g]? = some (.cells cs t (0, 0)))
    (hu : P.underlying ty = some d) (hd : (match d with | .struct _ | .array _ _ => true | _ => false) = true) (hi : (P.info? ty).map (·.size) = some cs.size) : (results fn tmps).run P w = .ok (.tuple #[.agg cs, tmps.getD u undef]) w := by
  have hr := run_loadVar_row (P := P) w g t ty cs (0, 0) d hg hu hd hi
  rw [results_cell_tmp h, hp]
  simp [asAddr, Result.andThen, hr]
theorem res_cell3 {P : Program} {fn : Func} {p u x : Tmp} {ty : TypeId} (h : fn.results = #[.cell p ty, .tmp u, .tmp x]) (tmps : Array Value) (w : World) (g : Nat) (t : TypeId) (cs : Array Value) (d : TypeDesc) (hp : tmps.getD p undef = .pointer (some ⟨g, 0, none⟩)) (hg : w.heap[g]? = some (.cells cs t (0, 0)))
    (hu : P.underlying ty = some d) (hd : (match d with | .struct _ | .array _ _ => true | _ => false) = true) (hi : (P.info? ty).map (·.size) = some cs.size) : (results fn tmps).run P w = .ok (.tuple #[.agg cs, tmps.getD u undef, tmps.getD x undef]) w := by
  have hr := run_loadVar_row (P := P) w g t ty cs (0, 0) d hg hu hd hi
  have hp' : tmps[p]?.getD undef = .pointer (some ⟨g, 0, none⟩) := by rw [← hp, Array.getD_eq_getD_getElem?]
  simp [results, h, asAddr, hr, hp']

end Go.Proofs.YtkcpgcaccgahaaaGreatDoor
