/- What the walk of cid.CidFromReader rests on. -/
import Derived.Test.YtldhnabhojfmiaaDoorRBufRd
import Derived.Test.YtldhnabhojfmiaaDoorRRdNone
import Derived.Test.YtldhnabhojfmiaaDoorRReadNode
import Derived.Test.YtldhnabhojfmiaaDoorRCidFromA
import Derived.Test.YtldhnabhojfmiaaDoorRCidFrom1
namespace Go.Proofs.YtldhnabhojfmiaaDoorR
open Go.RowKit

/-- What cid.CidFromReader hands back. -/
def CrdEnd (g : Nat) (bs : List UInt8) (ve : Value) (w : World) (e : Ending) (w' : World) : Prop :=
  Ex (· = g) w w' ∧ match cdRead bs with
  | some (_, _, _, _, n) => e = .returned (.tuple #[.int .i64 n, .agg #[.string (strB (bs.take n))], .nilIface])
  | none => ∃ z s T u, e = .returned (.tuple #[.int .i64 z, .agg #[.string s], .iface T u]) ∧ (.iface T u = ve ∨ T = 117)
theorem crdEnd_none {g : Nat} {bs : List UInt8} {ve : Value} {w w' : World} {z : Int} {s : ByteArray} {T : TypeId} {u : Value} (h : cdRead bs = none) (hb : Ex (· = g) w w') (hk : .iface T u = ve ∨ T = 117) : CrdEnd g bs ve w (.returned (.tuple #[.int .i64 z, .agg #[.string s], .iface T u])) w' := by
  refine ⟨hb, ?_⟩; rw [h]; exact ⟨z, s, T, u, rfl, hk⟩
theorem crdEnd_some {g : Nat} {bs : List UInt8} {ve : Value} {w w' : World} {a b c N : Nat} {d : List UInt8} {z : Int} {s : ByteArray} (h : cdRead bs = some (a, b, c, d, N)) (hb : Ex (· = g) w w') (hz : z = N) (hs : s = strB (bs.take N)) : CrdEnd g bs ve w (.returned (.tuple #[.int .i64 z, .agg #[.string s], .nilIface])) w' := by
  subst hz hs; refine ⟨hb, ?_⟩; rw [h]

theorem made_zeros (N : Nat) : madeCells (Value.cells (.int .u8 0)) N = zeros N := by
  apply Array.ext
  · rw [size_madeCells, zeros_size]
  · intro j h1 h2
    simp [madeCells, zeros, Value.cells, Nat.mod_one]
theorem mk064 (W : World) : (Instr.makeSlice 71 (.int .i64 0) (.int .i64 64)).run Tryd.prog W = .ok (.slice (some ⟨W.heap.size, 0, none⟩) 0 64) (W.alloc (.cells (zeros 64) 5)) := by
  obtain ⟨i, hi, hz, hs, hb⟩ := info_parts info_u8
  have h := run_make (P := Tryd.prog) W 71 5 i _ Tryd.underlying71 hi hz .i64 .i64 0 64 (by omega) (by omega) (by rw [hb]; omega) (by omega)
  rw [h, hs, show (64 : Int).toNat * 1 = 64 from rfl, made_zeros]
  rfl

/-- How the walk begins. -/
theorem crd_start (g ga n c : Nat) (q : Int) (bs : List UInt8) (w : World) (hg : RdrAt w g ga n c 0 q) (hr : RdB w (some ⟨ga, 0, none⟩) n c bs) (o : Obj) (W : World) (hW : W = (w.alloc o).alloc (.cells (zeros 64) 5)) :
    W.heap.size = w.heap.size + 1 + 1 ∧ CrAt g ga n c (w.heap.size + 1 + 1) (w.heap.size + 1) 0 bs (W.alloc (.cells (bufCs g (w.heap.size + 1) 0) 131)) (W.alloc (.cells (bufCs g (w.heap.size + 1) 0) 131))
      ∧ RdB (W.alloc (.cells (bufCs g (w.heap.size + 1) 0) 131)) (some ⟨ga, 0, none⟩) n c bs ∧ Below w.heap.size w (W.alloc (.cells (bufCs g (w.heap.size + 1) 0) 131)) := by
  have hs : W.heap.size = w.heap.size + 1 + 1 := by rw [hW]; simp [World.alloc, -World.alloc_eq]
  have hb1 : Below w.heap.size w W := by rw [hW]; exact bel_alloc (bel_alloc (Below.refl _ _) _) _
  have hb := bel_alloc hb1 (.cells (bufCs g (w.heap.size + 1) 0) 131)
  have hd : W.heap[w.heap.size + 1]? = some (.cells (zeros 64) 5 (0, 0)) := by rw [hW]; exact blk_new2 (Below.refl _ _)
  refine ⟨hs, ⟨⟨q, blk_keep hg hb⟩, ?_, ⟨zeros 64, blk_keep hd (bel_alloc (Below.refl _ _) _), by rw [zeros_size], fun j hj => by omega⟩, Ex.refl _ _⟩, hr.below hb, hb⟩
  have := blk_new (w := W) (o := .cells (bufCs g (w.heap.size + 1) 0) 131) (Below.refl _ _)
  rw [hs] at this
  exact this

/-- One varint out of such a reader. -/
theorem crd_uv (g ga n c b d L : Nat) (bs : List UInt8) (ve vu vo vn : Value) (w0 w : World) (h : CrAt g ga n c b d L bs w0 w) (hr : RdB w0 (some ⟨ga, 0, none⟩) n c bs) (hag : ga < g) (hgd : g < d) (hdb : d < b) (hn : n ≤ 4611686018427387904) (hlt : 2 < g) (hL : L ≤ 40)
    (he : ∀ w', Ex (fun x => x = g ∨ x = b ∨ x = d) w0 w' → RdErrs ve vu vo vn w') :
    Calls Tryd.prog 63 #[.iface 124 (.pointer (some ⟨b, 0, none⟩))] w fun e w' => RuEnd (bs.drop L) ve (fun k w' => CrAt g ga n c b d (L + k) bs w0 w') e w' :=
  readUv_calls _ _ _ _ _ _ _ _ _ (byteRdr_buf g ga n c b d L bs ve vu vo vn w0 hr hag hgd hdb hn hlt hL he) w h

/-- What the buffer reads as behind a reading into it. -/
theorem rd_pre {w : World} {d o cap : Nat} {t : TypeId} {cs : Array Value} {bs : List UInt8} {m : Nat} (h : w.heap[d]? = some (.cells (putLs cs o (Lib.byteCells ((bs.drop o).take m))) t (0, 0))) (hs : o + m ≤ cs.size) (hl : o + m ≤ bs.length) (hp : ∀ j, j < o → cs[j]? = (bs[j]?).map (fun x => Value.int .u8 (x.toNat : Int))) (hc : o + m ≤ cap) (hc63 : cap ≤ 9223372036854775807) :
    RdB w (some ⟨d, 0, none⟩) (o + m) cap (bs.take (o + m)) := by
  have hlt : ((bs.drop o).take m).length = m := by rw [List.length_take, List.length_drop]; omega
  refine ⟨by rw [List.length_take]; omega, hc, hc63, fun _ => ⟨d, 0, rfl, fun i hi => ?_⟩⟩
  rw [List.length_take] at hi
  rw [blk_cell h, Nat.zero_add, putLs_get _ _ _ _ (by rw [Lib.byteCells_length, hlt]; exact hs), Lib.byteCells_length, hlt]
  by_cases hio : o ≤ i
  · rw [if_pos (by omega)]
    simp only [Lib.byteCells, List.getElem?_map, List.getElem_take]
    rw [List.getElem?_take, if_pos (by omega), List.getElem?_drop, show o + (i - o) = i by omega, List.getElem?_eq_getElem (by omega)]
    rfl
  · rw [if_neg (by omega), hp i (by omega), List.getElem_take, List.getElem?_eq_getElem (by omega)]
    rfl
/-- The same where nothing is read. -/
theorem rd_pre0 {w : World} {d o cap : Nat} {t : TypeId} {cs : Array Value} {bs : List UInt8} (h : w.heap[d]? = some (.cells cs t (0, 0))) (hl : o ≤ bs.length) (hp : ∀ j, j < o → cs[j]? = (bs[j]?).map (fun x => Value.int .u8 (x.toNat : Int))) (hc : o ≤ cap) (hc63 : cap ≤ 9223372036854775807) :
    RdB w (some ⟨d, 0, none⟩) o cap (bs.take o) := by
  refine ⟨by rw [List.length_take]; omega, hc, hc63, fun _ => ⟨d, 0, rfl, fun i hi => ?_⟩⟩
  rw [List.length_take] at hi
  rw [blk_cell h, Nat.zero_add, hp i (by omega), List.getElem_take, List.getElem?_eq_getElem (by omega)]
  rfl

theorem slice_lh (d n c lo hi : Nat) (h1 : lo < hi) (h2 : hi ≤ c) (W : World) :
    (Instr.slice 71 (.slice (some ⟨d, 0, none⟩) n c) (some (.int .i64 (lo : Int))) (some (.int .i64 (hi : Int))) none).run Tryd.prog W = .ok (.slice (some ⟨d, lo, none⟩) (hi - lo) (c - lo)) W := by
  obtain ⟨i, hi', _, hs, _⟩ := info_parts info_u8
  have hel : Tryd.prog.elem 71 = 5 := by simp [Program.elem, Tryd.underlying71]
  have hu : Tryd.prog.underlying 71 = some (.slice (Tryd.prog.elem 71)) := by rw [hel]; exact Tryd.underlying71
  rw [run_slice_lh W 71 _ n c hu .i64 .i64 (lo : Int) (hi : Int) (by omega) (by omega) (by omega), hel]
  have hne : ¬ c = lo := by omega
  simp [sizeOf, typeInfo, hi', hs, sliced, Result.andThen, hne, add_plain]
theorem slice_lh0 (d n c lo : Nat) (h2 : lo ≤ c) :
    ∃ A : Option Addr, ∀ W : World, (Instr.slice 71 (.slice (some ⟨d, 0, none⟩) n c) (some (.int .i64 (lo : Int))) (some (.int .i64 (lo : Int))) none).run Tryd.prog W = .ok (.slice A 0 (c - lo)) W := by
  obtain ⟨i, hi', _, hs, _⟩ := info_parts info_u8
  have hel : Tryd.prog.elem 71 = 5 := by simp [Program.elem, Tryd.underlying71]
  have hu : Tryd.prog.underlying 71 = some (.slice (Tryd.prog.elem 71)) := by rw [hel]; exact Tryd.underlying71
  refine ⟨if c = lo then some ⟨d, 0, none⟩ else some ⟨d, lo, none⟩, fun W => ?_⟩
  rw [run_slice_lh W 71 _ n c hu .i64 .i64 (lo : Int) (lo : Int) (by omega) (by omega) (by omega), hel]
  by_cases hne : c = lo
  · simp [sizeOf, typeInfo, hi', hs, sliced, Result.andThen, hne]
  · simp [sizeOf, typeInfo, hi', hs, sliced, Result.andThen, hne, add_plain]
theorem slice_h (d n c hi : Nat) (h0 : 0 < c) (h2 : hi ≤ c) (W : World) :
    (Instr.slice 71 (.slice (some ⟨d, 0, none⟩) n c) none (some (.int .i64 (hi : Int))) none).run Tryd.prog W = .ok (.slice (some ⟨d, 0, none⟩) hi c) W := by
  obtain ⟨i, hi', _, hs, _⟩ := info_parts info_u8
  have hel : Tryd.prog.elem 71 = 5 := by simp [Program.elem, Tryd.underlying71]
  have hu : Tryd.prog.underlying 71 = some (.slice (Tryd.prog.elem 71)) := by rw [hel]; exact Tryd.underlying71
  rw [run_slice_h W 71 _ n c hu .i64 (hi : Int) (by omega) (by omega), hel]
  have hne : ¬ c = 0 := by omega
  simp [sizeOf, typeInfo, hi', hs, sliced, Result.andThen, hne, add_plain]

/-- What the operations of the regions that hand back something leave. -/
def crE12 (b d L r : Nat) (su : ByteArray) (j : Nat) (v : Value) (w : World) : Prop :=
  match j with
  | 0 => v = .pointer (some ⟨b, 0, none⟩)
  | 1 => v = .pointer (some ⟨b, 0, none⟩)
  | 2 => v = .pointer (some ⟨b, 2, none⟩)
  | 3 => v = .slice (some ⟨d, 0, none⟩) L 64
  | 4 => v = .int .i64 L
  | 5 => v = .agg #[.string su]
  | 6 => ∃ T u, v = .iface T u
  | 7 => ∃ x, v = .agg #[x]
  | 8 => ∃ x, v = .iface 117 x
  | 9 => v = .int .i64 L
  | 10 => w.heap[r]? = some (.cells #[.string su] 56 (0, 0))
  | 11 => ∃ x, v = .iface 117 x
  | _ => True
def crE14 (b d L r : Nat) (su : ByteArray) (z : Int) (j : Nat) (v : Value) (w : World) : Prop :=
  match j with
  | 0 => v = .pointer (some ⟨b, 0, none⟩)
  | 1 => v = .pointer (some ⟨b, 0, none⟩)
  | 2 => v = .pointer (some ⟨b, 2, none⟩)
  | 3 => v = .slice (some ⟨d, 0, none⟩) L 64
  | 4 => v = .int .i64 L
  | 5 => v = .int .i64 z
  | 6 => ∃ x, v = .int .i64 x
  | 7 => v = .agg #[.string su]
  | 8 => ∃ T u, v = .iface T u
  | 9 => ∃ x, v = .agg #[x]
  | 10 => ∃ x, v = .iface 117 x
  | 11 => ∃ x, v = .int .i64 x
  | 12 => w.heap[r]? = some (.cells #[.string su] 56 (0, 0))
  | 13 => ∃ x, v = .iface 117 x
  | _ => True
def crE10 (L r : Nat) (su : ByteArray) (z : Int) (j : Nat) (v : Value) (w : World) : Prop :=
  match j with
  | 0 => v = .int .i64 L
  | 1 => v = .int .i64 z
  | 2 => ∃ x, v = .int .i64 x
  | 3 => v = .agg #[.string su]
  | 4 => ∃ T u, v = .iface T u
  | 5 => ∃ x, v = .agg #[x]
  | 6 => ∃ x, v = .iface 117 x
  | 7 => ∃ x, v = .int .i64 x
  | 8 => w.heap[r]? = some (.cells #[.string su] 56 (0, 0))
  | 9 => ∃ x, v = .iface 117 x
  | _ => True
def crE5 (r : Nat) (su : ByteArray) (T : TypeId) (u : Value) (j : Nat) (v : Value) (w : World) : Prop :=
  match j with
  | 0 => v = .agg #[.string su]
  | 1 => v = .iface T u
  | 2 => v = .int .i64 0
  | 3 => w.heap[r]? = some (.cells #[.string su] 56 (0, 0))
  | 4 => v = .iface T u
  | _ => True
def crS11 (b d L cap r : Nat) (S : ByteArray) (j : Nat) (v : Value) (w : World) : Prop :=
  match j with
  | 0 => v = .pointer (some ⟨b, 0, none⟩)
  | 1 => v = .pointer (some ⟨b, 0, none⟩)
  | 2 => v = .pointer (some ⟨b, 2, none⟩)
  | 3 => v = .slice (some ⟨d, 0, none⟩) L cap
  | 4 => v = .int .i64 L
  | 5 => v = .slice (some ⟨d, 0, none⟩) L cap
  | 6 => v = .string S
  | 7 => v = .agg #[.string S]
  | 8 => v = .int .i64 L
  | 9 => w.heap[r]? = some (.cells #[.string S] 56 (0, 0))
  | 10 => v = .nilIface
  | _ => True
def crS14 (b d L cap r : Nat) (S : ByteArray) (j : Nat) (v : Value) (w : World) : Prop :=
  match j with
  | 0 => v = .pointer (some ⟨b, 0, none⟩)
  | 1 => v = .pointer (some ⟨b, 0, none⟩)
  | 2 => v = .pointer (some ⟨b, 2, none⟩)
  | 3 => v = .slice (some ⟨d, 0, none⟩) L cap
  | 4 => v = .int .i64 L
  | 5 => v = .pointer (some ⟨b, 0, none⟩)
  | 6 => v = .pointer (some ⟨b, 0, none⟩)
  | 7 => v = .pointer (some ⟨b, 2, none⟩)
  | 8 => v = .slice (some ⟨d, 0, none⟩) L cap
  | 9 => v = .string S
  | 10 => v = .agg #[.string S]
  | 11 => v = .int .i64 L
  | 12 => w.heap[r]? = some (.cells #[.string S] 56 (0, 0))
  | 13 => v = .nilIface
  | _ => True

end Go.Proofs.YtldhnabhojfmiaaDoorR
