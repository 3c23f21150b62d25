/- What the walk of cid.CidFromReader rests on where its row must grow. -/
import Derived.Test.YtldhnabhojfmiaaDoorRCrd4
import Derived.Lib.AppendZerosOnto
namespace Go.Proofs.YtldhnabhojfmiaaDoorR
open Go.RowKit

theorem grownCap_ge' (w : World) (n old : Nat) (e : TypeId) : n ≤ grownCap w n old e := by
  unfold grownCap Question.cut; simp only; omega
theorem grownCap_lt' (w : World) (n old : Nat) (e : TypeId) (h : n < 2 ^ 63) : grownCap w n old e < 2 ^ 63 := by
  unfold grownCap Question.cut
  have := Nat.mod_lt (w.tape w.drawn (.appendCap n old e)) (show 0 < 2 ^ 63 - n by omega)
  simp only
  omega
theorem zeroCells_size (n : Nat) (v : Value) : (Builtin.zeroCells (Value.cells v) n).size = n * (Value.cells v).size := by
  simp [Builtin.zeroCells]

/-- The append that makes the row grow. -/
theorem grow_append (W : World) (d L x : Nat) (cs : Array Value) (hd : W.heap[d]? = some (.cells cs 5 (0, 0))) (hs : cs.size = 64) (hL : L ≤ 40) (hx : x ≤ 33554432) (hf : 64 < L + x) :
    ∃ row cap, (Builtin.append_ #[71, 3] 71 #[.slice (some ⟨d, 0, none⟩) L 64, .int .i64 (x : Int)]).run Tryd.prog W = .ok (.slice (some ⟨W.heap.size, 0, none⟩) (L + x) cap) (W.drew.alloc (.cells row 5))
      ∧ L + x ≤ cap ∧ cap ≤ 9223372036854775807 ∧ row.size = cap ∧ ∀ j, j < L → row[j]? = cs[j]? := by
  obtain ⟨i, hi, hz, hs1, hb⟩ := info_parts info_u8
  have hlen : (cs.toList.take L).length = L := by rw [List.length_take, Array.length_toList]; omega
  have hold : (Builtin.firstCells i.size L (.slice (some ⟨d, 0, none⟩) L 64)).run Tryd.prog W.drew = .ok (cs.toList.take L).toArray W.drew := by
    refine run_firstCells_some (P := Tryd.prog) W.drew i.size L ⟨d, 0, none⟩ L 64 _ (by rw [hlen, hs1]; omega) (fun j v hj => ?_)
    rw [add_plain, Nat.zero_add]
    have hdw : W.drew.heap[d]? = some (.cells cs 5 (0, 0)) := hd
    rw [blk_cell hdw]
    rw [List.getElem?_take] at hj
    split at hj
    · simpa using hj
    · cases hj
  have h := Lib.run_append_grow_zeros (P := Tryd.prog) W 71 3 71 5 i _ .i64 .i64 Tryd.underlying71 Tryd.underlying3 hi hz (some ⟨d, 0, none⟩) L 64 _ hold x (by omega) (by omega) (by omega) (by omega) (by rw [hb]; omega) (by rw [hb]; exact growslice_fits (by omega) (by omega))
  have hge := grownCap_ge' W (L + x) 64 5
  have hlt := grownCap_lt' W (L + x) 64 5 (by omega)
  have hv : (Value.cells (.int .u8 0)).size = 1 := rfl
  refine ⟨_, _, h, hge, by omega, ?_, fun j hj => ?_⟩
  · rw [Array.size_append, Array.size_append, zeroCells_size, zeroCells_size, hv, List.size_toArray, hlen]
    omega
  · rw [Array.getElem?_append_left (by rw [Array.size_append, List.size_toArray, hlen]; omega), Array.getElem?_append_left (by rw [List.size_toArray, hlen]; exact hj)]
    simp [hj]

/-- The worlds of the region in which the row grows. -/
def crSt (w W1 W2 : World) (f : Nat → Bool) : World := if f 15 then W2 else if f 12 then W1 else w
theorem crSt0 {w W1 W2 : World} {f : Nat → Bool} (h : f 12 = false) (h2 : f 15 = false) : crSt w W1 W2 f = w := by simp [crSt, h, h2]
theorem crSt1 {w W1 W2 : World} {f : Nat → Bool} (h : f 12 = true) (h2 : f 15 = false) : crSt w W1 W2 f = W1 := by simp [crSt, h, h2]
theorem crSt_upd {w W1 W2 : World} {f : Nat → Bool} {i : Nat} (h : i ≠ 12) (h2 : i ≠ 15) : crSt w W1 W2 f = crSt w W1 W2 (fun j => if j = i then true else f j) := by
  have h15 : ¬ 15 = i := fun e => h2 e.symm
  have h12 : ¬ 12 = i := fun e => h e.symm
  simp only [crSt, if_neg h15, if_neg h12]
/-- What the operations of that region leave. -/
def crV (b d L x nd cap : Nat) (i : Nat) : Value :=
  match i with
  | 3 => .pointer (some ⟨b, 2, none⟩)
  | 8 => .pointer (some ⟨b, 2, none⟩)
  | 14 => .pointer (some ⟨b, 2, none⟩)
  | 4 => .slice (some ⟨d, 0, none⟩) L 64
  | 9 => .slice (some ⟨d, 0, none⟩) L 64
  | 5 => .int .i64 ((L : Int) + (x : Int))
  | 10 => .int .i64 (L : Int)
  | 11 => .int .i64 (x : Int)
  | 12 => .slice (some ⟨nd, 0, none⟩) (L + x) cap
  | 15 => undef
  | _ => .pointer (some ⟨b, 0, none⟩)

end Go.Proofs.YtldhnabhojfmiaaDoorR
