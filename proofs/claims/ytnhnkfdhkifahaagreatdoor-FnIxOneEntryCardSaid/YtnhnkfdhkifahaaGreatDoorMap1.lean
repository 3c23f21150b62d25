/- Maps of one entry at most, known to the letter: looked up, written, ranged over. No function of the program. -/
import Derived.Test.YtnhnkfdhkifahaaGreatDoorBase
import Derived.Maps.OwnOps
import Derived.Maps.RangeRun
namespace Go.Proofs.YtnhnkfdhkifahaaGreatDoor
open Go.RowKit
open Go.ChangeMaps (setBlock)
section
variable {P : Program} {ops : Array Oper} {rest : List Oper} {o : Oper} {a : Act} {Q : Exit → Act → World → Prop}

theorem wpList_lookup_run (w : World) (hg : o.guard = none) (m x : Operand) (t : TypeId) (ck : Bool) (hop : o.op = Op.lookup t m x ck) (mv xv v : Value) (hm : a.eval m = mv) (hx : a.eval x = xv)
    (hrun : (Instr.lookup t mv xv ck).run P w = .ok v w) (h : wpList P ops Q rest (a.put o.dst v) w) : wpList P ops Q (o :: rest) a w := by
  refine wpList_plain hg fun K' hK' => ?_
  unfold Oper.wp
  simp [execOp, hop, hm, hx, hrun, Result.andThen]
  exact hK' _ _ h
theorem wpList_mapUpdate_run (w : World) (hg : o.guard = none) (m x v : Operand) (t : TypeId) (hop : o.op = Op.mapUpdate t m x v) (mv xv vv : Value) (w' : World) (hm : a.eval m = mv) (hx : a.eval x = xv) (hv : a.eval v = vv)
    (hrun : (Instr.mapUpdate t mv xv vv).run P w = .ok () w') (h : wpList P ops Q rest (a.put o.dst undef) w') : wpList P ops Q (o :: rest) a w := by
  refine wpList_plain hg fun K' hK' => ?_
  unfold Oper.wp
  simp [execOp, hop, hm, hx, hv, hrun, Result.andThen]
  exact hK' _ _ h
theorem wpList_range_run (w : World) (hg : o.guard = none) (m : Operand) (t : TypeId) (hop : o.op = Op.range t m) (mv v : Value) (w' : World) (hm : a.eval m = mv)
    (hrun : (Instr.range t mv).run P w = .ok v w') (h : wpList P ops Q rest (a.put o.dst v) w') : wpList P ops Q (o :: rest) a w := by
  refine wpList_plain hg fun K' hK' => ?_
  unfold Oper.wp
  simp [execOp, hop, hm, hrun, Result.andThen]
  exact hK' _ _ h
theorem wpList_next_run (w : World) (hg : o.guard = none) (it : Operand) (hop : o.op = Op.next it false) (iv v : Value) (w' : World) (hm : a.eval it = iv)
    (hrun : (Instr.next iv false o.type).run P w = .ok v w') (h : wpList P ops Q rest (a.put o.dst v) w') : wpList P ops Q (o :: rest) a w := by
  refine wpList_plain hg fun K' hK' => ?_
  unfold Oper.wp
  simp [execOp, hop, hm, hrun, Result.andThen]
  exact hK' _ _ h

variable {w : World} {g : Nat} {c : Nat} {t k e : TypeId} {q : IntKind} {x : Int}
theorem key_int (w : World) (hk : P.underlying k = some (.int q)) (em : Bool) : (Instr.checkKey em 10000 k (.int q x)).run P w = .ok () w := by
  rw [show (10000 : Nat) = 9999 + 1 from rfl]
  unfold Instr.checkKey
  simp [Sem.run_bind, run_underlying hk]
theorem find_none (w : World) (hk : P.underlying k = some (.int q)) : (Instr.findKey k (.int q x) []).run P w = .ok none w := by
  simp [Instr.findKey, run_underlying hk, Instr.findNow]
theorem find_one (w : World) (hk : P.underlying k = some (.int q)) (v : Value) (b : Nat) : (Instr.findKey k (.int q x) [⟨.int q x, v, b⟩]).run P w = .ok (some (0, v)) w := by
  simp [Instr.findKey, run_underlying hk, Instr.findNow, Instr.sameNow]
theorem obj_at {w : World} {g : Nat} {es : Array MapEntry} {c : Nat} (hg : w.heap[g]? = some (.map es c)) : (getObj g).run P w = .ok (.map es c) w := by
  simp [getObj, Sem.run, hg]
theorem setObj_at {w : World} {g : Nat} {es : Array MapEntry} {c : Nat} (o' : Obj) (hg : w.heap[g]? = some (.map es c)) : (setObj g o').run P w = .ok () (setBlock w g o') := by
  simp [setObj, Sem.run, hg, setBlock]
theorem look_none (hu : P.underlying t = some (.map k e)) (hk : P.underlying k = some (.int q)) (hg : w.heap[g]? = some (.map #[] c)) (z : Value) (hz : (zeroValue e).run P w = .ok z w) (ck : Bool) :
    (Instr.lookup t (.map (some g)) (.int q x) ck).run P w = .ok (if ck then .tuple #[z, .bool false] else z) w := by
  unfold Instr.lookup
  cases ck <;> simp [Sem.run_bind, run_underlying hu, obj_at hg, Result.andThen, key_int w hk, find_none w hk, hz]
theorem look_one (hu : P.underlying t = some (.map k e)) (hk : P.underlying k = some (.int q)) (v : Value) (b : Nat) (hg : w.heap[g]? = some (.map #[⟨.int q x, v, b⟩] c)) (ck : Bool) :
    (Instr.lookup t (.map (some g)) (.int q x) ck).run P w = .ok (if ck then .tuple #[v, .bool true] else v) w := by
  unfold Instr.lookup
  cases ck <;> simp [Sem.run_bind, run_underlying hu, obj_at hg, Result.andThen, key_int w hk, find_one w hk]
theorem upd_none (hu : P.underlying t = some (.map k e)) (hk : P.underlying k = some (.int q)) (hg : w.heap[g]? = some (.map #[] c)) (v : Value) :
    (Instr.mapUpdate t (.map (some g)) (.int q x) v).run P w = .ok () (setBlock w g (.map #[⟨.int q x, v, c⟩] (c + 1))) := by
  unfold Instr.mapUpdate
  simp [Sem.run_bind, run_underlying hu, obj_at hg, setObj_at _ hg, Result.andThen, key_int w hk, find_none w hk]
theorem upd_one (hu : P.underlying t = some (.map k e)) (hk : P.underlying k = some (.int q)) (v0 v : Value) (b : Nat) (hg : w.heap[g]? = some (.map #[⟨.int q x, v0, b⟩] c)) :
    (Instr.mapUpdate t (.map (some g)) (.int q x) v).run P w = .ok () (setBlock w g (.map #[⟨.int q x, v, b⟩] c)) := by
  unfold Instr.mapUpdate
  simp [Sem.run_bind, run_underlying hu, obj_at hg, setObj_at _ hg, Result.andThen, key_int w hk, find_one w hk, Instr.keyThatStays, Instr.sameBits]
/-- The step to the one entry. -/
theorem next_one (ty : TypeId) (r : Nat) (key v : Value) (b : Nat) (hr : w.heap[r]? = some (.mapIter (some g) c #[] c)) (hg : w.heap[g]? = some (.map #[⟨key, v, b⟩] c)) (hb : b < c) :
    (Instr.next (.pointer (some ⟨r, 0, none⟩)) false ty).run P w = .ok (.tuple #[.bool true, key, v]) (setBlock w r (.mapIter (some g) c #[b] c)) := by
  simp [Instr.next, Sem.run_bind, getObj, setObj, setBlock, Sem.run, hr, hg, Result.andThen, hb, choose, Question.forced, show ¬ c ≤ b by omega]
/-- The step behind it. -/
theorem next_done (ty : TypeId) (r : Nat) (key v : Value) (b : Nat) (hr : w.heap[r]? = some (.mapIter (some g) c #[b] c)) (hg : w.heap[g]? = some (.map #[⟨key, v, b⟩] c)) (hb : b < c) :
    (Instr.next (.pointer (some ⟨r, 0, none⟩)) false ty).run P w = .ok (.tuple #[.bool false]) w := by
  rcases run_next_at (P := P) w ty r g c c #[b] #[⟨key, v, b⟩] c hr hg (fun y hy => by simp at hy; subst hy; exact hb) (Nat.le_refl _) with ⟨_, h⟩ | ⟨e, he, _⟩
  · exact h
  · simp [leftOf] at he
theorem entry_one (r : Nat) (key v : Value) (b : Nat) (hr : w.heap[r]? = some (.mapIter (some g) c #[b] c)) (hg : w.heap[g]? = some (.map #[⟨key, v, b⟩] c)) :
    (Instr.entry (.pointer (some ⟨r, 0, none⟩))).run P w = .ok (.tuple #[key, v]) w :=
  run_entry_at w r g c #[] #[⟨key, v, b⟩] c ⟨key, v, b⟩ hr hg (by simp) (by simp)
end
theorem set_same {w : World} {g : Nat} {o : Obj} (o' : Obj) (h : w.heap[g]? = some o) : (setBlock w g o').heap[g]? = some o' := by
  have hl := (Array.getElem?_eq_some_iff.1 h).1
  simp [setBlock, hl]
theorem set_far {w : World} {g j : Nat} (o' : Obj) (h : j ≠ g) : (setBlock w g o').heap[j]? = w.heap[j]? := by
  simp only [setBlock]
  rw [Array.getElem?_setIfInBounds_ne (fun e => h e.symm)]
theorem set_size {w : World} {g : Nat} (o' : Obj) : (setBlock w g o').heap.size = w.heap.size := by simp [setBlock]
theorem bel_setBlock {B : Nat} {w W : World} (h : Below B w W) {g : Nat} (hg : B ≤ g) (o' : Obj) : Below B w (setBlock W g o') :=
  ⟨h.os, h.tape, h.output, by rw [set_size]; exact h.size, fun k hk => (set_far o' (by omega)).trans (h.block k hk)⟩

end Go.Proofs.YtnhnkfdhkifahaaGreatDoor
