/- A row that is written in parts; a bytes.Buffer and what stays beside it. No function of the program. -/
import Derived.Test.YtnhnkfdhkifahaaGreatDoorBase
import Derived.Test.YtnhnkfdhkifahaaGreatDoorShelf
import Derived.Lib.BufferKept
import Derived.Lib.Endian
namespace Go.Proofs.YtnhnkfdhkifahaaGreatDoor
open Go.RowKit

theorem belB_sc {B : Nat} {w : World} {g : Nat} (hg : B ≤ g) : ∀ (vs : List Value) (o : Nat) {W : World}, Below B w W → Below B w (W.setCells g o vs)
  | [], _, _, h => h
  | _ :: r, o, _, h => belB_sc hg r (o + 1) (h.setCell hg _)
/-- Cells of a row, some of which have been written anew. -/
def putArr (cs : Array Value) (o : Nat) : List Value → Array Value
  | [] => cs
  | v :: r => putArr (cs.setIfInBounds o v) (o + 1) r
theorem blk_putCells {g : Nat} {t : TypeId} : ∀ (vs : List Value) (o : Nat) (cs : Array Value) {w : World}, w.heap[g]? = some (.cells cs t (0, 0)) → (w.setCells g o vs).heap[g]? = some (.cells (putArr cs o vs) t (0, 0))
  | [], _, _, _, h => h
  | v :: r, o, cs, _, h => blk_putCells r (o + 1) (cs.setIfInBounds o v) (blk_set h o v)
theorem putArr_toList : ∀ (vs : List Value) (o : Nat) (cs : Array Value), o + vs.length ≤ cs.size → (putArr cs o vs).toList = cs.toList.take o ++ vs ++ cs.toList.drop (o + vs.length)
  | [], o, cs, _ => by simp [putArr]
  | v :: r, o, cs, h => by
    rw [List.length_cons] at h
    rw [putArr, putArr_toList r (o + 1) (cs.setIfInBounds o v) (by rw [Array.size_setIfInBounds]; omega), Array.toList_setIfInBounds, List.length_cons]
    have hl : cs.toList.length = cs.size := rfl
    rw [List.take_set, List.drop_set_of_lt (by omega)]
    have e1 : (cs.toList.take (o + 1)).set o v = cs.toList.take o ++ [v] := by
      apply List.ext_getElem?
      intro i
      rw [List.getElem?_set]
      by_cases hi : o = i
      · subst hi
        rw [if_pos rfl, List.length_take, if_pos (by omega), List.getElem?_append_right (by rw [List.length_take]; omega), List.length_take, Nat.min_eq_left (by omega), Nat.sub_self]
        rfl
      · rw [if_neg hi, List.getElem?_take]
        by_cases h2 : i < o
        · rw [if_pos (by omega), List.getElem?_append_left (by rw [List.length_take]; omega), List.getElem?_take, if_pos h2]
        · rw [if_neg (by omega), List.getElem?_eq_none (by simp; omega)]
    rw [e1, show o + (r.length + 1) = o + 1 + r.length by omega]
    simp
theorem putArr_size : ∀ (vs : List Value) (o : Nat) (cs : Array Value), (putArr cs o vs).size = cs.size
  | [], _, _ => rfl
  | v :: r, o, cs => by rw [putArr, putArr_size r, Array.size_setIfInBounds]
theorem le8c_len (x : Nat) : (Lib.byteCells (Lib.leBytes 8 x)).length = 8 := by rw [Lib.byteCells_length, Lib.leBytes_length]
theorem put_two (a b : Nat) : (putArr (putArr (zeros 16) 0 (Lib.byteCells (Lib.leBytes 8 a))) 8 (Lib.byteCells (Lib.leBytes 8 b))).toList = Lib.byteCells (Lib.leBytes 8 a ++ Lib.leBytes 8 b) := by
  have ha := le8c_len a
  have hb := le8c_len b
  rw [show Lib.byteCells (Lib.leBytes 8 a ++ Lib.leBytes 8 b) = Lib.byteCells (Lib.leBytes 8 a) ++ Lib.byteCells (Lib.leBytes 8 b) by simp [Lib.byteCells]]
  generalize Lib.byteCells (Lib.leBytes 8 a) = A at *
  generalize Lib.byteCells (Lib.leBytes 8 b) = B at *
  have hz := zeros_size 16
  have hz' : (zeros 16).toList.length = 16 := hz
  rw [putArr_toList _ _ _ (by rw [putArr_size, hz, hb]; omega), putArr_toList _ _ _ (by rw [hz, ha]; omega), List.take_zero, List.nil_append, List.take_append_of_le_length (by omega), List.take_of_length_le (by omega), ha, hb]
  rw [List.drop_of_length_le (by rw [List.length_append, List.length_drop, hz', ha]; omega), List.append_nil]
theorem put_three (a b c : Nat) : (putArr (putArr (putArr (zeros 24) 0 (Lib.byteCells (Lib.leBytes 8 a))) 8 (Lib.byteCells (Lib.leBytes 8 b))) 16 (Lib.byteCells (Lib.leBytes 8 c))).toList = Lib.byteCells (Lib.leBytes 8 a ++ Lib.leBytes 8 b ++ Lib.leBytes 8 c) := by
  have ha := le8c_len a
  have hb := le8c_len b
  have hc := le8c_len c
  rw [show Lib.byteCells (Lib.leBytes 8 a ++ Lib.leBytes 8 b ++ Lib.leBytes 8 c) = Lib.byteCells (Lib.leBytes 8 a) ++ Lib.byteCells (Lib.leBytes 8 b) ++ Lib.byteCells (Lib.leBytes 8 c) by simp [Lib.byteCells]]
  generalize Lib.byteCells (Lib.leBytes 8 a) = A at *
  generalize Lib.byteCells (Lib.leBytes 8 b) = B at *
  generalize Lib.byteCells (Lib.leBytes 8 c) = C at *
  have hz := zeros_size 24
  have hz' : (zeros 24).toList.length = 24 := hz
  have e1 : (putArr (putArr (zeros 24) 0 A) 8 B).toList = A ++ B ++ (zeros 24).toList.drop 16 := by
    rw [putArr_toList _ _ _ (by rw [putArr_size, hz, hb]; omega), putArr_toList _ _ _ (by rw [hz, ha]; omega), List.take_zero, List.nil_append, List.take_append_of_le_length (by omega), List.take_of_length_le (by omega), ha, hb]
    rw [show 8 + 8 = A.length + 8 by omega, ← List.drop_drop, List.drop_left' rfl, List.drop_drop]
  rw [putArr_toList _ _ _ (by rw [putArr_size, putArr_size, hz, hc]; omega), e1, hc]
  rw [List.take_append_of_le_length (by rw [List.length_append]; omega), List.take_of_length_le (by rw [List.length_append]; omega)]
  rw [List.drop_of_length_le (by rw [List.length_append, List.length_append, List.length_drop, hz']; omega), List.append_nil]
theorem rd_of_blk {w : World} {g : Nat} {t : TypeId} {cs : Array Value} {bs : List UInt8} (h : w.heap[g]? = some (.cells cs t (0, 0))) (hc : cs.toList = Lib.byteCells bs) (hl : bs.length ≤ 9223372036854775807) : RdB w (some ⟨g, 0, none⟩) bs.length bs.length bs := by
  refine ⟨rfl, Nat.le_refl _, hl, fun _ => ⟨_, _, rfl, fun i hi => ?_⟩⟩
  rw [Nat.zero_add, blk_cell h, ← Array.getElem?_toList, hc]
  simp [Lib.byteCells, hi]
theorem rd_src {w : World} {g o n c : Nat} {ys : List UInt8} (hr : RdB w (some ⟨g, o, none⟩) n c ys) (h0 : 0 < n) : ∀ j u, (Lib.byteCells ys)[j]? = some u → w.cell? ((⟨g, o, none⟩ : Addr).add j) = some u := fun j u hj => by
  obtain ⟨g', o', e, hcell⟩ := hr.lies h0
  have e' := Option.some.inj e
  simp only [Addr.mk.injEq] at e'
  obtain ⟨rfl, rfl, _⟩ := e'
  have hjl : j < ys.length := by have := (List.getElem?_eq_some_iff.1 hj).1; rwa [Lib.byteCells_length] at this
  rw [add_plain, hcell j hjl]
  simp [Lib.byteCells, List.getElem?_eq_getElem hjl] at hj
  rw [hj]
theorem byteCells_one (l : List UInt8) : ∀ v ∈ Lib.byteCells l, v.oneCell' = true := fun v hv => by
  simp only [Lib.byteCells, List.mem_map] at hv
  obtain ⟨b, _, rfl⟩ := hv
  rfl

/-- A bytes.Buffer in block b that holds the bytes xs. -/
def Buf (B b : Nat) (xs : List UInt8) (w : World) : Prop := Lib.IsBuffer 62 5 B b (Lib.byteCells xs) w
theorem Buf.below {B b : Nat} {xs : List UInt8} {w w' : World} (h : Buf B b xs w) (hb : Below w.heap.size w w') : Buf B b xs w' := by
  obtain ⟨hB, v, lr, hbk, ⟨hl, ho⟩, hne⟩ := h
  refine ⟨hB, v, lr, blk_keep hbk hb, ⟨hl, ?_⟩, hne⟩
  rcases ho with ho | ⟨g, cap, cur, rfl, hg, hgg, rest⟩
  · exact .inl ho
  · exact .inr ⟨g, cap, cur, rfl, hg, blk_keep hgg hb, rest⟩
theorem Buf.lt {B b : Nat} {xs : List UInt8} {w : World} (h : Buf B b xs w) : b < w.heap.size := by
  obtain ⟨_, v, lr, hbk, _⟩ := h
  exact (Array.getElem?_eq_some_iff.1 hbk).1
/-- What stays beside a buffer that is written. -/
abbrev Beside (b : Nat) (w w' : World) : Prop := Lib.OthersKept 5 (some b) w w'
theorem beside_below {b : Nat} {w w' : World} (h : Below w.heap.size w w') : Beside b w w' := (Lib.OthersKept.refl _ _ _).below h
theorem Beside.blk {b : Nat} {w w' : World} (h : Beside b w w') {k : Nat} {cs : Array Value} {t : TypeId} (hk : w.heap[k]? = some (.cells cs t (0, 0))) (hb : k ≠ b) (ht : t ≠ 5) : w'.heap[k]? = some (.cells cs t (0, 0)) :=
  h k _ hk (by simpa using hb) (fun c fz e => ht (by injection e))

/-- (*bytes.Buffer).Write of at least one byte. -/
theorem bufWrite_calls (B b : Nat) (xs : List UInt8) (g o n c : Nat) (ys : List UInt8) (w : World) (h : Buf B b xs w) (hr : RdB w (some ⟨g, o, none⟩) n c ys) (h0 : 0 < n) (hg : g ≠ b) (hBw : B ≤ w.heap.size) (hlen : xs.length + n ≤ 140737488355328) :
    Calls Tryz.prog 131 #[.pointer (some ⟨b, 0, none⟩), .slice (some ⟨g, o, none⟩) n c] w fun e w' => e = .returned (.tuple #[.int .i64 n, .nilIface]) ∧ Buf B b (xs ++ ys) w' ∧ Below B w w' ∧ Beside b w w' := by
  have := Tryz.Buffer_Write_any B b (Lib.byteCells xs) (Lib.byteCells ys) ⟨g, o, none⟩ n c w h hBw (byteCells_one _) (by rw [Lib.byteCells_length, hr.len]) hg (rd_src hr h0) (byteCells_one _) (by rw [Lib.byteCells_length]; exact hlen)
  refine this.mono ?_
  rintro e w' ⟨rfl, h1, h2, h3⟩
  refine ⟨rfl, ?_, h2, h3⟩
  unfold Buf
  rw [show Lib.byteCells (xs ++ ys) = Lib.byteCells xs ++ Lib.byteCells ys by simp [Lib.byteCells]]
  exact h1

end Go.Proofs.YtnhnkfdhkifahaaGreatDoor
