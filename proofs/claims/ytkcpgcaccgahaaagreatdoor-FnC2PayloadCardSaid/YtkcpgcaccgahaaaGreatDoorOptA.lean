/- Some texts in one: Opts, OptAp. -/
import Derived.Test.YtkcpgcaccgahaaaGreatDoorBase
import Derived.Shelf.Abstract
import Derived.Test.YtkcpgcaccgahaaaGreatDoorRdA
import Derived.Deep.MidRow
namespace Go.Proofs.YtkcpgcaccgahaaaGreatDoor
open Go.RowKit

/-- Their types by their place. -/
def okO (k : Nat) (x : Value) : Prop := if k = 3 ∨ k = 5 ∨ k = 6 ∨ k = 7 ∨ k = 9 ∨ k = 10 then ∃ b, x = .bool b else ∃ z : Nat, x = .int .u64 z
/-- The function of the option that sets this place. -/
def optF (k : Nat) : FuncId :=
  match k with
  | 0 => 88
  | 1 => 89
  | 2 => 90
  | 3 => 82
  | 4 => 91
  | 5 => 83
  | 6 => 84
  | 7 => 85
  | 9 => 86
  | 10 => 87
  | 11 => 92
  | _ => 93
def optKs : List Nat := [0, 1, 2, 3, 4, 5, 6, 7, 9, 10, 11, 12]
def optV (k c : Nat) : Value := .func (.func (optF k)) #[] #[.pointer (some ⟨c, 0, none⟩)]

set_option maxRecDepth 100000 in
theorem optDo0_calls (g c : Nat) (x : Nat) (w : World) (cs : Array Value) (tg tc : TypeId) (hg : w.heap[g]? = some (.cells cs tg (0, 0))) (hs : 0 < cs.size) (hc : w.heap[c]? = some (.cells #[(.int .u64 x)] tc (0, 0))) :
    Calls Tryz.prog 88 #[.pointer (some ⟨g, 0, none⟩), .pointer (some ⟨c, 0, none⟩)] w fun e w' => e = .returned (.tuple #[]) ∧ w' = w.setCell ⟨g, 0, none⟩ (.int .u64 x) := by
  have c0 := blk_cell hc 0
  have g0 := blk_cell hg 0
  rw [Array.getElem?_eq_getElem hs] at g0
  have f0 := blk_frozen hg 0
  clear hg hc
  go_enter Tryz.func88, Tryz.ntmps88
  go_wp2_with fail
  go_end0
  exact ⟨rfl, rfl⟩
set_option maxRecDepth 100000 in
theorem optMk0_calls (x : Nat) (w : World) :
    Calls Tryz.prog 64 #[(.int .u64 x)] w fun e w' => ∃ c t, e = .returned (optV 0 c) ∧ w'.heap[c]? = some (.cells #[(.int .u64 x)] t (0, 0)) ∧ Below w.heap.size w w' := by
  have hmf : ∀ (fn : Fn) (first cap : Array Value) (w : World), (Instr.makeFunc fn first cap).run Tryz.prog w = .ok (.func fn first cap) w := fun _ _ _ _ => rfl
  have HB0 := Kp.mk (fun o => bel_alloc (Below.refl w.heap.size w) o)
  have HN0 := Kp.mk (fun o => blk_new (w := w) (o := o) (Below.refl _ _))
  go_enter Tryz.func64, Tryz.ntmps64
  go_wp2_with fail
  go_ret
  exact ⟨_, _, rfl, HN0.out _, HB0.out _⟩

set_option maxRecDepth 100000 in
theorem optDo1_calls (g c : Nat) (x : Nat) (w : World) (cs : Array Value) (tg tc : TypeId) (hg : w.heap[g]? = some (.cells cs tg (0, 0))) (hs : 1 < cs.size) (hc : w.heap[c]? = some (.cells #[(.int .u64 x)] tc (0, 0))) :
    Calls Tryz.prog 89 #[.pointer (some ⟨g, 0, none⟩), .pointer (some ⟨c, 0, none⟩)] w fun e w' => e = .returned (.tuple #[]) ∧ w' = w.setCell ⟨g, 1, none⟩ (.int .u64 x) := by
  have c0 := blk_cell hc 0
  have g0 := blk_cell hg 1
  rw [Array.getElem?_eq_getElem hs] at g0
  have f0 := blk_frozen hg 1
  clear hg hc
  go_enter Tryz.func89, Tryz.ntmps89
  go_wp2_with fail
  go_end0
  exact ⟨rfl, rfl⟩
set_option maxRecDepth 100000 in
theorem optMk1_calls (x : Nat) (w : World) :
    Calls Tryz.prog 65 #[(.int .u64 x)] w fun e w' => ∃ c t, e = .returned (optV 1 c) ∧ w'.heap[c]? = some (.cells #[(.int .u64 x)] t (0, 0)) ∧ Below w.heap.size w w' := by
  have hmf : ∀ (fn : Fn) (first cap : Array Value) (w : World), (Instr.makeFunc fn first cap).run Tryz.prog w = .ok (.func fn first cap) w := fun _ _ _ _ => rfl
  have HB0 := Kp.mk (fun o => bel_alloc (Below.refl w.heap.size w) o)
  have HN0 := Kp.mk (fun o => blk_new (w := w) (o := o) (Below.refl _ _))
  go_enter Tryz.func65, Tryz.ntmps65
  go_wp2_with fail
  go_ret
  exact ⟨_, _, rfl, HN0.out _, HB0.out _⟩

set_option maxRecDepth 100000 in
theorem optDo2_calls (g c : Nat) (x : Nat) (w : World) (cs : Array Value) (tg tc : TypeId) (hg : w.heap[g]? = some (.cells cs tg (0, 0))) (hs : 2 < cs.size) (hc : w.heap[c]? = some (.cells #[(.int .u64 x)] tc (0, 0))) :
    Calls Tryz.prog 90 #[.pointer (some ⟨g, 0, none⟩), .pointer (some ⟨c, 0, none⟩)] w fun e w' => e = .returned (.tuple #[]) ∧ w' = w.setCell ⟨g, 2, none⟩ (.int .u64 x) := by
  have c0 := blk_cell hc 0
  have g0 := blk_cell hg 2
  rw [Array.getElem?_eq_getElem hs] at g0
  have f0 := blk_frozen hg 2
  clear hg hc
  go_enter Tryz.func90, Tryz.ntmps90
  go_wp2_with fail
  go_end0
  exact ⟨rfl, rfl⟩
set_option maxRecDepth 100000 in
theorem optMk2_calls (x : Nat) (w : World) :
    Calls Tryz.prog 66 #[(.int .u64 x)] w fun e w' => ∃ c t, e = .returned (optV 2 c) ∧ w'.heap[c]? = some (.cells #[(.int .u64 x)] t (0, 0)) ∧ Below w.heap.size w w' := by
  have hmf : ∀ (fn : Fn) (first cap : Array Value) (w : World), (Instr.makeFunc fn first cap).run Tryz.prog w = .ok (.func fn first cap) w := fun _ _ _ _ => rfl
  have HB0 := Kp.mk (fun o => bel_alloc (Below.refl w.heap.size w) o)
  have HN0 := Kp.mk (fun o => blk_new (w := w) (o := o) (Below.refl _ _))
  go_enter Tryz.func66, Tryz.ntmps66
  go_wp2_with fail
  go_ret
  exact ⟨_, _, rfl, HN0.out _, HB0.out _⟩

set_option maxRecDepth 100000 in
theorem optDo3_calls (g c : Nat) (x : Bool) (w : World) (cs : Array Value) (tg tc : TypeId) (hg : w.heap[g]? = some (.cells cs tg (0, 0))) (hs : 3 < cs.size) (hc : w.heap[c]? = some (.cells #[(.bool x)] tc (0, 0))) :
    Calls Tryz.prog 82 #[.pointer (some ⟨g, 0, none⟩), .pointer (some ⟨c, 0, none⟩)] w fun e w' => e = .returned (.tuple #[]) ∧ w' = w.setCell ⟨g, 3, none⟩ (.bool x) := by
  have c0 := blk_cell hc 0
  have g0 := blk_cell hg 3
  rw [Array.getElem?_eq_getElem hs] at g0
  have f0 := blk_frozen hg 3
  clear hg hc
  go_enter Tryz.func82, Tryz.ntmps82
  go_wp2_with fail
  go_end0
  exact ⟨rfl, rfl⟩
set_option maxRecDepth 100000 in
theorem optMk3_calls (x : Bool) (w : World) :
    Calls Tryz.prog 58 #[(.bool x)] w fun e w' => ∃ c t, e = .returned (optV 3 c) ∧ w'.heap[c]? = some (.cells #[(.bool x)] t (0, 0)) ∧ Below w.heap.size w w' := by
  have hmf : ∀ (fn : Fn) (first cap : Array Value) (w : World), (Instr.makeFunc fn first cap).run Tryz.prog w = .ok (.func fn first cap) w := fun _ _ _ _ => rfl
  have HB0 := Kp.mk (fun o => bel_alloc (Below.refl w.heap.size w) o)
  have HN0 := Kp.mk (fun o => blk_new (w := w) (o := o) (Below.refl _ _))
  go_enter Tryz.func58, Tryz.ntmps58
  go_wp2_with fail
  go_ret
  exact ⟨_, _, rfl, HN0.out _, HB0.out _⟩

set_option maxRecDepth 100000 in
theorem optDo4_calls (g c : Nat) (x : Nat) (w : World) (cs : Array Value) (tg tc : TypeId) (hg : w.heap[g]? = some (.cells cs tg (0, 0))) (hs : 4 < cs.size) (hc : w.heap[c]? = some (.cells #[(.int .u64 x)] tc (0, 0))) :
    Calls Tryz.prog 91 #[.pointer (some ⟨g, 0, none⟩), .pointer (some ⟨c, 0, none⟩)] w fun e w' => e = .returned (.tuple #[]) ∧ w' = w.setCell ⟨g, 4, none⟩ (.int .u64 x) := by
  have c0 := blk_cell hc 0
  have g0 := blk_cell hg 4
  rw [Array.getElem?_eq_getElem hs] at g0
  have f0 := blk_frozen hg 4
  clear hg hc
  go_enter Tryz.func91, Tryz.ntmps91
  go_wp2_with fail
  go_end0
  exact ⟨rfl, rfl⟩
set_option maxRecDepth 100000 in
theorem optMk4_calls (x : Nat) (w : World) :
    Calls Tryz.prog 67 #[(.int .u64 x)] w fun e w' => ∃ c t, e = .returned (optV 4 c) ∧ w'.heap[c]? = some (.cells #[(.int .u64 x)] t (0, 0)) ∧ Below w.heap.size w w' := by
  have hmf : ∀ (fn : Fn) (first cap : Array Value) (w : World), (Instr.makeFunc fn first cap).run Tryz.prog w = .ok (.func fn first cap) w := fun _ _ _ _ => rfl
  have HB0 := Kp.mk (fun o => bel_alloc (Below.refl w.heap.size w) o)
  have HN0 := Kp.mk (fun o => blk_new (w := w) (o := o) (Below.refl _ _))
  go_enter Tryz.func67, Tryz.ntmps67
  go_wp2_with fail
  go_ret
  exact ⟨_, _, rfl, HN0.out _, HB0.out _⟩

set_option maxRecDepth 100000 in
theorem optDo5_calls (g c : Nat) (x : Bool) (w : World) (cs : Array Value) (tg tc : TypeId) (hg : w.heap[g]? = some (.cells cs tg (0, 0))) (hs : 5 < cs.size) (hc : w.heap[c]? = some (.cells #[(.bool x)] tc (0, 0))) :
    Calls Tryz.prog 83 #[.pointer (some ⟨g, 0, none⟩), .pointer (some ⟨c, 0, none⟩)] w fun e w' => e = .returned (.tuple #[]) ∧ w' = w.setCell ⟨g, 5, none⟩ (.bool x) := by
  have c0 := blk_cell hc 0
  have g0 := blk_cell hg 5
  rw [Array.getElem?_eq_getElem hs] at g0
  have f0 := blk_frozen hg 5
  clear hg hc
  go_enter Tryz.func83, Tryz.ntmps83
  go_wp2_with fail
  go_end0
  exact ⟨rfl, rfl⟩
set_option maxRecDepth 100000 in
theorem optMk5_calls (x : Bool) (w : World) :
    Calls Tryz.prog 59 #[(.bool x)] w fun e w' => ∃ c t, e = .returned (optV 5 c) ∧ w'.heap[c]? = some (.cells #[(.bool x)] t (0, 0)) ∧ Below w.heap.size w w' := by
  have hmf : ∀ (fn : Fn) (first cap : Array Value) (w : World), (Instr.makeFunc fn first cap).run Tryz.prog w = .ok (.func fn first cap) w := fun _ _ _ _ => rfl
  have HB0 := Kp.mk (fun o => bel_alloc (Below.refl w.heap.size w) o)
  have HN0 := Kp.mk (fun o => blk_new (w := w) (o := o) (Below.refl _ _))
  go_enter Tryz.func59, Tryz.ntmps59
  go_wp2_with fail
  go_ret
  exact ⟨_, _, rfl, HN0.out _, HB0.out _⟩

set_option maxRecDepth 100000 in
theorem optDo6_calls (g c : Nat) (x : Bool) (w : World) (cs : Array Value) (tg tc : TypeId) (hg : w.heap[g]? = some (.cells cs tg (0, 0))) (hs : 6 < cs.size) (hc : w.heap[c]? = some (.cells #[(.bool x)] tc (0, 0))) :
    Calls Tryz.prog 84 #[.pointer (some ⟨g, 0, none⟩), .pointer (some ⟨c, 0, none⟩)] w fun e w' => e = .returned (.tuple #[]) ∧ w' = w.setCell ⟨g, 6, none⟩ (.bool x) := by
  have c0 := blk_cell hc 0
  have g0 := blk_cell hg 6
  rw [Array.getElem?_eq_getElem hs] at g0
  have f0 := blk_frozen hg 6
  clear hg hc
  go_enter Tryz.func84, Tryz.ntmps84
  go_wp2_with fail
  go_end0
  exact ⟨rfl, rfl⟩
set_option maxRecDepth 100000 in
theorem optMk6_calls (x : Bool) (w : World) :
    Calls Tryz.prog 60 #[(.bool x)] w fun e w' => ∃ c t, e = .returned (optV 6 c) ∧ w'.heap[c]? = some (.cells #[(.bool x)] t (0, 0)) ∧ Below w.heap.size w w' := by
  have hmf : ∀ (fn : Fn) (first cap : Array Value) (w : World), (Instr.makeFunc fn first cap).run Tryz.prog w = .ok (.func fn first cap) w := fun _ _ _ _ => rfl
  have HB0 := Kp.mk (fun o => bel_alloc (Below.refl w.heap.size w) o)
  have HN0 := Kp.mk (fun o => blk_new (w := w) (o := o) (Below.refl _ _))
  go_enter Tryz.func60, Tryz.ntmps60
  go_wp2_with fail
  go_ret
  exact ⟨_, _, rfl, HN0.out _, HB0.out _⟩

set_option maxRecDepth 100000 in
theorem optDo7_calls (g c : Nat) (x : Bool) (w : World) (cs : Array Value) (tg tc : TypeId) (hg : w.heap[g]? = some (.cells cs tg (0, 0))) (hs : 7 < cs.size) (hc : w.heap[c]? = some (.cells #[(.bool x)] tc (0, 0))) :
    Calls Tryz.prog 85 #[.pointer (some ⟨g, 0, none⟩), .pointer (some ⟨c, 0, none⟩)] w fun e w' => e = .returned (.tuple #[]) ∧ w' = w.setCell ⟨g, 7, none⟩ (.bool x) := by
  have c0 := blk_cell hc 0
  have g0 := blk_cell hg 7
  rw [Array.getElem?_eq_getElem hs] at g0
  have f0 := blk_frozen hg 7
  clear hg hc
  go_enter Tryz.func85, Tryz.ntmps85
  go_wp2_with fail
  go_end0
  exact ⟨rfl, rfl⟩
set_option maxRecDepth 100000 in
theorem optMk7_calls (x : Bool) (w : World) :
    Calls Tryz.prog 61 #[(.bool x)] w fun e w' => ∃ c t, e = .returned (optV 7 c) ∧ w'.heap[c]? = some (.cells #[(.bool x)] t (0, 0)) ∧ Below w.heap.size w w' := by
  have hmf : ∀ (fn : Fn) (first cap : Array Value) (w : World), (Instr.makeFunc fn first cap).run Tryz.prog w = .ok (.func fn first cap) w := fun _ _ _ _ => rfl
  have HB0 := Kp.mk (fun o => bel_alloc (Below.refl w.heap.size w) o)
  have HN0 := Kp.mk (fun o => blk_new (w := w) (o := o) (Below.refl _ _))
  go_enter Tryz.func61, Tryz.ntmps61
  go_wp2_with fail
  go_ret
  exact ⟨_, _, rfl, HN0.out _, HB0.out _⟩

set_option maxRecDepth 100000 in
theorem optDo9_calls (g c : Nat) (x : Bool) (w : World) (cs : Array Value) (tg tc : TypeId) (hg : w.heap[g]? = some (.cells cs tg (0, 0))) (hs : 9 < cs.size) (hc : w.heap[c]? = some (.cells #[(.bool x)] tc (0, 0))) :
    Calls Tryz.prog 86 #[.pointer (some ⟨g, 0, none⟩), .pointer (some ⟨c, 0, none⟩)] w fun e w' => e = .returned (.tuple #[]) ∧ w' = w.setCell ⟨g, 9, none⟩ (.bool x) := by
  have c0 := blk_cell hc 0
  have g0 := blk_cell hg 9
  rw [Array.getElem?_eq_getElem hs] at g0
  have f0 := blk_frozen hg 9
  clear hg hc
  go_enter Tryz.func86, Tryz.ntmps86
  go_wp2_with fail
  go_end0
  exact ⟨rfl, rfl⟩
set_option maxRecDepth 100000 in
theorem optMk9_calls (x : Bool) (w : World) :
    Calls Tryz.prog 62 #[(.bool x)] w fun e w' => ∃ c t, e = .returned (optV 9 c) ∧ w'.heap[c]? = some (.cells #[(.bool x)] t (0, 0)) ∧ Below w.heap.size w w' := by
  have hmf : ∀ (fn : Fn) (first cap : Array Value) (w : World), (Instr.makeFunc fn first cap).run Tryz.prog w = .ok (.func fn first cap) w := fun _ _ _ _ => rfl
  have HB0 := Kp.mk (fun o => bel_alloc (Below.refl w.heap.size w) o)
  have HN0 := Kp.mk (fun o => blk_new (w := w) (o := o) (Below.refl _ _))
  go_enter Tryz.func62, Tryz.ntmps62
  go_wp2_with fail
  go_ret
  exact ⟨_, _, rfl, HN0.out _, HB0.out _⟩

set_option maxRecDepth 100000 in
theorem optDo10_calls (g c : Nat) (x : Bool) (w : World) (cs : Array Value) (tg tc : TypeId) (hg : w.heap[g]? = some (.cells cs tg (0, 0))) (hs : 10 < cs.size) (hc : w.heap[c]? = some (.cells #[(.bool x)] tc (0, 0))) :
    Calls Tryz.prog 87 #[.pointer (some ⟨g, 0, none⟩), .pointer (some ⟨c, 0, none⟩)] w fun e w' => e = .returned (.tuple #[]) ∧ w' = w.setCell ⟨g, 10, none⟩ (.bool x) := by
  have c0 := blk_cell hc 0
  have g0 := blk_cell hg 10
  rw [Array.getElem?_eq_getElem hs] at g0
  have f0 := blk_frozen hg 10
  clear hg hc
  go_enter Tryz.func87, Tryz.ntmps87
  go_wp2_with fail
  go_end0
  exact ⟨rfl, rfl⟩
set_option maxRecDepth 100000 in
theorem optMk10_calls (x : Bool) (w : World) :
    Calls Tryz.prog 63 #[(.bool x)] w fun e w' => ∃ c t, e = .returned (optV 10 c) ∧ w'.heap[c]? = some (.cells #[(.bool x)] t (0, 0)) ∧ Below w.heap.size w w' := by
  have hmf : ∀ (fn : Fn) (first cap : Array Value) (w : World), (Instr.makeFunc fn first cap).run Tryz.prog w = .ok (.func fn first cap) w := fun _ _ _ _ => rfl
  have HB0 := Kp.mk (fun o => bel_alloc (Below.refl w.heap.size w) o)
  have HN0 := Kp.mk (fun o => blk_new (w := w) (o := o) (Below.refl _ _))
  go_enter Tryz.func63, Tryz.ntmps63
  go_wp2_with fail
  go_ret
  exact ⟨_, _, rfl, HN0.out _, HB0.out _⟩

set_option maxRecDepth 100000 in
theorem optDo11_calls (g c : Nat) (x : Nat) (w : World) (cs : Array Value) (tg tc : TypeId) (hg : w.heap[g]? = some (.cells cs tg (0, 0))) (hs : 11 < cs.size) (hc : w.heap[c]? = some (.cells #[(.int .u64 x)] tc (0, 0))) :
    Calls Tryz.prog 92 #[.pointer (some ⟨g, 0, none⟩), .pointer (some ⟨c, 0, none⟩)] w fun e w' => e = .returned (.tuple #[]) ∧ w' = w.setCell ⟨g, 11, none⟩ (.int .u64 x) := by
  have c0 := blk_cell hc 0
  have g0 := blk_cell hg 11
  rw [Array.getElem?_eq_getElem hs] at g0
  have f0 := blk_frozen hg 11
  clear hg hc
  go_enter Tryz.func92, Tryz.ntmps92
  go_wp2_with fail
  go_end0
  exact ⟨rfl, rfl⟩
set_option maxRecDepth 100000 in
theorem optMk11_calls (x : Nat) (w : World) :
    Calls Tryz.prog 68 #[(.int .u64 x)] w fun e w' => ∃ c t, e = .returned (optV 11 c) ∧ w'.heap[c]? = some (.cells #[(.int .u64 x)] t (0, 0)) ∧ Below w.heap.size w w' := by
  have hmf : ∀ (fn : Fn) (first cap : Array Value) (w : World), (Instr.makeFunc fn first cap).run Tryz.prog w = .ok (.func fn first cap) w := fun _ _ _ _ => rfl
  have HB0 := Kp.mk (fun o => bel_alloc (Below.refl w.heap.size w) o)
  have HN0 := Kp.mk (fun o => blk_new (w := w) (o := o) (Below.refl _ _))
  go_enter Tryz.func68, Tryz.ntmps68
  go_wp2_with fail
  go_ret
  exact ⟨_, _, rfl, HN0.out _, HB0.out _⟩

set_option maxRecDepth 100000 in
theorem optDo12_calls (g c : Nat) (x : Nat) (w : World) (cs : Array Value) (tg tc : TypeId) (hg : w.heap[g]? = some (.cells cs tg (0, 0))) (hs : 12 < cs.size) (hc : w.heap[c]? = some (.cells #[(.int .u64 x)] tc (0, 0))) :
    Calls Tryz.prog 93 #[.pointer (some ⟨g, 0, none⟩), .pointer (some ⟨c, 0, none⟩)] w fun e w' => e = .returned (.tuple #[]) ∧ w' = w.setCell ⟨g, 12, none⟩ (.int .u64 x) := by
  have c0 := blk_cell hc 0
  have g0 := blk_cell hg 12
  rw [Array.getElem?_eq_getElem hs] at g0
  have f0 := blk_frozen hg 12
  clear hg hc
  go_enter Tryz.func93, Tryz.ntmps93
  go_wp2_with fail
  go_end0
  exact ⟨rfl, rfl⟩
set_option maxRecDepth 100000 in
theorem optMk12_calls (x : Nat) (w : World) :
    Calls Tryz.prog 69 #[(.int .u64 x)] w fun e w' => ∃ c t, e = .returned (optV 12 c) ∧ w'.heap[c]? = some (.cells #[(.int .u64 x)] t (0, 0)) ∧ Below w.heap.size w w' := by
  have hmf : ∀ (fn : Fn) (first cap : Array Value) (w : World), (Instr.makeFunc fn first cap).run Tryz.prog w = .ok (.func fn first cap) w := fun _ _ _ _ => rfl
  have HB0 := Kp.mk (fun o => bel_alloc (Below.refl w.heap.size w) o)
  have HN0 := Kp.mk (fun o => blk_new (w := w) (o := o) (Below.refl _ _))
  go_enter Tryz.func69, Tryz.ntmps69
  go_wp2_with fail
  go_ret
  exact ⟨_, _, rfl, HN0.out _, HB0.out _⟩

set_option maxRecDepth 100000 in
/-- An option is called: it sets its place. -/
theorem optDo_calls (k g c : Nat) (x : Value) (w : World) (cs : Array Value) (tg tc : TypeId) (hk : k ∈ optKs) (hx : okO k x) (hg : w.heap[g]? = some (.cells cs tg (0, 0))) (hs : cs.size = 13) (hc : w.heap[c]? = some (.cells #[x] tc (0, 0))) :
    Calls Tryz.prog (optF k) #[.pointer (some ⟨g, 0, none⟩), .pointer (some ⟨c, 0, none⟩)] w fun e w' => e = .returned (.tuple #[]) ∧ w' = w.setCell ⟨g, k, none⟩ x := by
  simp only [optKs, List.mem_cons, List.not_mem_nil, or_false] at hk
  rcases hk with rfl | rfl | rfl | rfl | rfl | rfl | rfl | rfl | rfl | rfl | rfl | rfl
  · obtain ⟨z, rfl⟩ : ∃ z : Nat, x = .int .u64 z := by simpa [okO] using hx
    exact optDo0_calls g c z w cs tg tc hg (by omega) hc
  · obtain ⟨z, rfl⟩ : ∃ z : Nat, x = .int .u64 z := by simpa [okO] using hx
    exact optDo1_calls g c z w cs tg tc hg (by omega) hc
  · obtain ⟨z, rfl⟩ : ∃ z : Nat, x = .int .u64 z := by simpa [okO] using hx
    exact optDo2_calls g c z w cs tg tc hg (by omega) hc
  · obtain ⟨z, rfl⟩ : ∃ z, x = .bool z := by simpa [okO] using hx
    exact optDo3_calls g c z w cs tg tc hg (by omega) hc
  · obtain ⟨z, rfl⟩ : ∃ z : Nat, x = .int .u64 z := by simpa [okO] using hx
    exact optDo4_calls g c z w cs tg tc hg (by omega) hc
  · obtain ⟨z, rfl⟩ : ∃ z, x = .bool z := by simpa [okO] using hx
    exact optDo5_calls g c z w cs tg tc hg (by omega) hc
  · obtain ⟨z, rfl⟩ : ∃ z, x = .bool z := by simpa [okO] using hx
    exact optDo6_calls g c z w cs tg tc hg (by omega) hc
  · obtain ⟨z, rfl⟩ : ∃ z, x = .bool z := by simpa [okO] using hx
    exact optDo7_calls g c z w cs tg tc hg (by omega) hc
  · obtain ⟨z, rfl⟩ : ∃ z, x = .bool z := by simpa [okO] using hx
    exact optDo9_calls g c z w cs tg tc hg (by omega) hc
  · obtain ⟨z, rfl⟩ : ∃ z, x = .bool z := by simpa [okO] using hx
    exact optDo10_calls g c z w cs tg tc hg (by omega) hc
  · obtain ⟨z, rfl⟩ : ∃ z : Nat, x = .int .u64 z := by simpa [okO] using hx
    exact optDo11_calls g c z w cs tg tc hg (by omega) hc
  · obtain ⟨z, rfl⟩ : ∃ z : Nat, x = .int .u64 z := by simpa [okO] using hx
    exact optDo12_calls g c z w cs tg tc hg (by omega) hc
theorem optF_ent (k : Nat) (hk : k ∈ optKs) : ∀ args w, (callFunc (optF k) args).run Tryz.prog w = .ok (.enter (optF k) args) w := by
  simp only [optKs, List.mem_cons, List.not_mem_nil, or_false] at hk
  rcases hk with rfl | rfl | rfl | rfl | rfl | rfl | rfl | rfl | rfl | rfl | rfl | rfl
  · exact enters_of Tryz.func88 (by kernel_rfl) rfl
  · exact enters_of Tryz.func89 (by kernel_rfl) rfl
  · exact enters_of Tryz.func90 (by kernel_rfl) rfl
  · exact enters_of Tryz.func82 (by kernel_rfl) rfl
  · exact enters_of Tryz.func91 (by kernel_rfl) rfl
  · exact enters_of Tryz.func83 (by kernel_rfl) rfl
  · exact enters_of Tryz.func84 (by kernel_rfl) rfl
  · exact enters_of Tryz.func85 (by kernel_rfl) rfl
  · exact enters_of Tryz.func86 (by kernel_rfl) rfl
  · exact enters_of Tryz.func87 (by kernel_rfl) rfl
  · exact enters_of Tryz.func92 (by kernel_rfl) rfl
  · exact enters_of Tryz.func93 (by kernel_rfl) rfl

end Go.Proofs.YtkcpgcaccgahaaaGreatDoor
namespace Go.Proofs.YtkcpgcaccgahaaaGreatDoor
open Go.RowKit

/-- The options' values. -/
structure Opt13 where
  dp : Nat
  ip : Nat
  ic : Nat
  z : Bool
  mc : Nat
  si : Bool
  dup : Bool
  wh : Bool
  tr : Nat
  v1 : Bool
  tc : Bool
  mh : Nat
  ms : Nat
def Opt13.cells (u : Opt13) : Array Value := #[.int .u64 u.dp, .int .u64 u.ip, .int .u64 u.ic, .bool u.z, .int .u64 u.mc, .bool u.si, .bool u.dup, .bool u.wh, .int .u64 u.tr, .bool u.v1, .bool u.tc, .int .u64 u.mh, .int .u64 u.ms]
theorem Opt13.set (u : Opt13) (k : Nat) (x : Value) (hk : k ∈ optKs) (hx : okO k x) : ∃ u' : Opt13, u.cells.setIfInBounds k x = u'.cells ∧ ((k = 5 ∧ x = .bool u'.si) ∨ (k ≠ 5 ∧ u'.si = u.si)) ∧ ((k = 7 ∧ x = .bool u'.wh) ∨ (k ≠ 7 ∧ u'.wh = u.wh)) := by
  simp only [optKs, List.mem_cons, List.not_mem_nil, or_false] at hk
  rcases hk with rfl | rfl | rfl | rfl | rfl | rfl | rfl | rfl | rfl | rfl | rfl | rfl
  · obtain ⟨z, rfl⟩ : ∃ z : Nat, x = .int .u64 z := by simpa [okO] using hx
    exact ⟨{ u with dp := z }, rfl, .inr ⟨by decide, rfl⟩, .inr ⟨by decide, rfl⟩⟩
  · obtain ⟨z, rfl⟩ : ∃ z : Nat, x = .int .u64 z := by simpa [okO] using hx
    exact ⟨{ u with ip := z }, rfl, .inr ⟨by decide, rfl⟩, .inr ⟨by decide, rfl⟩⟩
  · obtain ⟨z, rfl⟩ : ∃ z : Nat, x = .int .u64 z := by simpa [okO] using hx
    exact ⟨{ u with ic := z }, rfl, .inr ⟨by decide, rfl⟩, .inr ⟨by decide, rfl⟩⟩
  · obtain ⟨z, rfl⟩ : ∃ z, x = .bool z := by simpa [okO] using hx
    exact ⟨{ u with z := z }, rfl, .inr ⟨by decide, rfl⟩, .inr ⟨by decide, rfl⟩⟩
  · obtain ⟨z, rfl⟩ : ∃ z : Nat, x = .int .u64 z := by simpa [okO] using hx
    exact ⟨{ u with mc := z }, rfl, .inr ⟨by decide, rfl⟩, .inr ⟨by decide, rfl⟩⟩
  · obtain ⟨z, rfl⟩ : ∃ z, x = .bool z := by simpa [okO] using hx
    exact ⟨{ u with si := z }, rfl, .inl ⟨rfl, rfl⟩, .inr ⟨by decide, rfl⟩⟩
  · obtain ⟨z, rfl⟩ : ∃ z, x = .bool z := by simpa [okO] using hx
    exact ⟨{ u with dup := z }, rfl, .inr ⟨by decide, rfl⟩, .inr ⟨by decide, rfl⟩⟩
  · obtain ⟨z, rfl⟩ : ∃ z, x = .bool z := by simpa [okO] using hx
    exact ⟨{ u with wh := z }, rfl, .inr ⟨by decide, rfl⟩, .inl ⟨rfl, rfl⟩⟩
  · obtain ⟨z, rfl⟩ : ∃ z, x = .bool z := by simpa [okO] using hx
    exact ⟨{ u with v1 := z }, rfl, .inr ⟨by decide, rfl⟩, .inr ⟨by decide, rfl⟩⟩
  · obtain ⟨z, rfl⟩ : ∃ z, x = .bool z := by simpa [okO] using hx
    exact ⟨{ u with tc := z }, rfl, .inr ⟨by decide, rfl⟩, .inr ⟨by decide, rfl⟩⟩
  · obtain ⟨z, rfl⟩ : ∃ z : Nat, x = .int .u64 z := by simpa [okO] using hx
    exact ⟨{ u with mh := z }, rfl, .inr ⟨by decide, rfl⟩, .inr ⟨by decide, rfl⟩⟩
  · obtain ⟨z, rfl⟩ : ∃ z : Nat, x = .int .u64 z := by simpa [okO] using hx
    exact ⟨{ u with ms := z }, rfl, .inr ⟨by decide, rfl⟩, .inr ⟨by decide, rfl⟩⟩

/-- The variables that the options hold. -/
def OptsIn (w : World) (E : List (Nat × Nat × Value)) : Prop := ∀ y ∈ E, y.1 ∈ optKs ∧ okO y.1 y.2.2 ∧ ∃ t, w.heap[y.2.1]? = some (.cells #[y.2.2] t (0, 0))
theorem OptsIn.below {w w1 : World} {E : List (Nat × Nat × Value)} (h : OptsIn w E) (hb : Below w.heap.size w w1) : OptsIn w1 E := fun y hy => by
  obtain ⟨h1, h2, t, h3⟩ := h y hy
  exact ⟨h1, h2, t, blk_keep h3 hb⟩
/-- A slice of options. -/
structure RdO (w : World) (A : Option Addr) (n : Nat) (E : List (Nat × Nat × Value)) : Prop where
  len : E.length = n
  lies : ∃ g o, A = some ⟨g, o, none⟩ ∧ ∀ i (h : i < E.length), w.cell? ⟨g, o + i, none⟩ = some (optV E[i].1 E[i].2.1)
  ins : OptsIn w E
theorem RdO.below {w w1 : World} {A : Option Addr} {n : Nat} {E : List (Nat × Nat × Value)} (h : RdO w A n E) (hb : Below w.heap.size w w1) : RdO w1 A n E := by
  obtain ⟨h1, ⟨g, o, h2, h3⟩, h4⟩ := h
  exact ⟨h1, ⟨g, o, h2, fun i hi => cell_bel hb (h3 i hi)⟩, h4.below hb⟩

theorem range_blk {w : World} {g : Nat} {t : TypeId} {cs : List Value} (h : w.heap[g]? = some (.cells cs.toArray t (0, 0))) : w.rangeAt g 0 cs := fun j v hv => by
  rw [blk_cell h (0 + j), Nat.zero_add]
  simpa using hv
theorem there_blk {w : World} {g : Nat} {t : TypeId} {cs : Array Value} (h : w.heap[g]? = some (.cells cs t (0, 0))) (n : Nat) (hn : n ≤ cs.size) : w.there g 0 n := fun j hj => by
  rw [Nat.zero_add]
  exact ⟨by rw [blk_cell h j, Array.getElem?_eq_getElem (by omega)]; simp, blk_frozen h j⟩
theorem blk_setAll {g : Nat} {t : TypeId} : ∀ (vs : List Value) (pre cs : List Value) (w : World), w.heap[g]? = some (.cells (pre ++ cs).toArray t (0, 0)) → cs.length = vs.length → (w.setCells g pre.length vs).heap[g]? = some (.cells (pre ++ vs).toArray t (0, 0))
  | [], pre, cs, w, h, hl => by
    have : cs = [] := List.length_eq_zero_iff.1 hl
    rw [this] at h
    exact h
  | v :: vs, pre, c :: cs, w, h, hl => by
    have h1 := blk_set h pre.length v
    have h2 : ((pre ++ c :: cs).toArray.setIfInBounds pre.length v) = ((pre ++ [v]) ++ cs).toArray := by
      simp
    rw [h2] at h1
    have h3 := blk_setAll vs (pre ++ [v]) cs _ h1 (by simpa using hl)
    rw [show (pre ++ [v]).length = pre.length + 1 by simp] at h3
    rw [show pre ++ v :: vs = pre ++ [v] ++ vs by simp]
    exact h3
theorem bel_setAll {w W : World} {g : Nat} (hg : w.heap.size ≤ g) : ∀ (vs : List Value) (o : Nat), Below w.heap.size w W → Below w.heap.size w (W.setCells g o vs)
  | [], _, h => h
  | v :: vs, o, h => by
    have h1 : Below w.heap.size w (W.setCell ⟨g, o, none⟩ v) := bel_set h (p := ⟨g, o, none⟩) hg v
    exact bel_setAll hg vs (o + 1) h1
set_option maxHeartbeats 8000000 in
set_option maxRecDepth 100000 in
/-- car.ApplyOptions. -/
theorem applyOpts_calls (A : Option Addr) (n c : Nat) (E : List (Nat × Nat × Value)) (id wh : Bool) (w : World) (hr : RdO w A n E) (hn : 8 ≤ n) (hn1 : n ≤ 100) (h5 : ∀ y ∈ E, y.1 = 5 → y.2.2 = .bool id) (h7 : ∀ y ∈ E, y.1 = 7 → y.2.2 = .bool wh) (h51 : ∃ a, E[1]? = some (5, a)) (h73 : ∃ a, E[3]? = some (7, a)) :
    Calls Tryz.prog 57 #[.slice A n c] w fun e w' => (∃ u : Opt13, u.si = id ∧ u.wh = wh ∧ e = .returned (.agg u.cells)) ∧ Below w.heap.size w w' := by
  obtain ⟨hlen, ⟨g, o, rfl, hc⟩, hin⟩ := hr
  obtain ⟨C0, hC0⟩ : ∃ C, C = Obj.cells #[.int .u64 0, .int .u64 0, .int .u64 0, .bool false, .int .u64 0, .bool false, .bool false, .bool false, .int .u64 0, .bool false, .bool false, .int .u64 0, .int .u64 0] 88 := ⟨_, rfl⟩
  obtain ⟨u0, hu0⟩ : ∃ u : Opt13, u = ⟨0, 0, 0, false, 0, false, false, false, 9223372036854775807, false, false, 33554432, 8388608⟩ := ⟨_, rfl⟩
  have hb1 : Below w.heap.size w ((w.alloc C0).alloc (.cells u0.cells 88)) := bel_alloc (bel_alloc (Below.refl _ _) _) _
  have hp1 : ((w.alloc C0).alloc (.cells u0.cells 88)).heap[w.heap.size + 1]? = some (.cells u0.cells 88 (0, 0)) := blk_new2 (Below.refl _ _)
  have hp0 : ((w.alloc C0).alloc (.cells u0.cells 88)).heap[w.heap.size]? = some C0 := blk_new (bel_alloc (Below.refl _ _) _)
  have hu0c : u0.cells = #[.int .u64 0, .int .u64 0, .int .u64 0, .bool false, .int .u64 0, .bool false, .bool false, .bool false, .int .u64 9223372036854775807, .bool false, .bool false, .int .u64 33554432, .int .u64 8388608] := by rw [hu0]; rfl
  obtain ⟨W1, hW1⟩ : ∃ W, W = ((w.alloc C0).alloc (.cells u0.cells 88)) := ⟨_, rfl⟩
  rw [← hW1] at hb1 hp1 hp0
  have HC := Kp.mk (fun i h => cell_bel hb1 (hc i h))
  have HI := Kp.mk (hin.below hb1)
  have HG : Kp (g < w.heap.size) := ⟨World.block_lt_of_cell? w _ (hc 0 (by omega))⟩
  have HV : Kp (∀ y ∈ E, y.2.1 < w.heap.size) := ⟨fun y hy => by obtain ⟨_, _, t, h⟩ := hin y hy; exact (Array.getElem?_eq_some_iff.1 h).1⟩
  have HB1 := Kp.mk hb1
  have HP1 := Kp.mk (And.intro hp0 hp1)
  have HS := Kp.mk (And.intro h5 (And.intro h7 (And.intro h51 h73)))
  have HN := Kp.mk (And.intro hlen (And.intro hn hn1))
  have HWW := Kp.mk (And.intro hW1 (And.intro hu0c hC0))
  clear hc hin hb1 hp1 hp0 h5 h7 h51 h73 hlen hn hn1 hu0 hu0c hC0 hW1
  go_enter Tryz.func57, Tryz.ntmps57
  go_wp2_with fail
  rw [← HWW.out.2.1, ← HWW.out.2.2, ← HWW.out.1]
  go_loopw [5, 9] (fun _ vi wr => ∃ i : Nat, vi = .int .i64 (i : Int) ∧ i ≤ n ∧ Kp (Ex (fun j => j = w.heap.size + 1) W1 wr ∧ ∃ u : Opt13, wr.heap[w.heap.size + 1]? = some (.cells u.cells 88 (0, 0)) ∧ (2 ≤ i → u.si = id) ∧ (4 ≤ i → u.wh = wh)))
    (fun _ vi _ => n - (match vi with | .int _ z => z.toNat | _ => 0))
  case atStart => exact ⟨0, rfl, Nat.zero_le _, ⟨Ex.refl _ _, u0, HP1.out.2, fun h => by omega, fun h => by omega⟩⟩
  case round =>
    obtain ⟨i, rfl, hi, HJ⟩ := hrel
    by_cases hin : i < n
    · have hil : i < E.length := by rw [HN.out.1]; exact hin
      have c0 : wr.cell? ⟨g, o + i, none⟩ = some (optV E[i].1 E[i].2.1) := HJ.out.1.cell (HC.out i hil) (by have := HG.out; show ¬ g = w.heap.size + 1; omega)
      have hmem := List.getElem_mem hil
      obtain ⟨hk, hx, tc, hcell⟩ := HI.out _ hmem
      have hlt := HV.out _ hmem
      have h5 := HS.out.1 _ hmem
      have h7 := HS.out.2.1 _ hmem
      have h51 : i = 1 → E[i].1 = 5 := by rintro rfl; obtain ⟨a, ha⟩ := HS.out.2.2.1; rw [List.getElem?_eq_getElem hil] at ha; rw [Option.some.inj ha]
      have h73 : i = 3 → E[i].1 = 7 := by rintro rfl; obtain ⟨a, ha⟩ := HS.out.2.2.2; rw [List.getElem?_eq_getElem hil] at ha; rw [Option.some.inj ha]
      generalize E[i] = y at *
      obtain ⟨k, cc, x⟩ := y
      obtain ⟨hx1, u, hu, hu5, hu7⟩ := HJ.out
      have hcc := hx1.keep hcell (by show ¬ cc = w.heap.size + 1; have : cc < w.heap.size := hlt; omega)
      have hcall := optDo_calls k (w.heap.size + 1) cc x wr u.cells _ tc hk hx hu rfl hcc
      have hent := optF_ent k hk
      obtain ⟨u', hu', h1, h2⟩ := u.set k x hk hx
      have HNX : Kp (Ex (fun j => j = w.heap.size + 1) W1 (wr.setCell ⟨w.heap.size + 1, k, none⟩ x) ∧ ∃ u : Opt13, (wr.setCell ⟨w.heap.size + 1, k, none⟩ x).heap[w.heap.size + 1]? = some (.cells u.cells 88 (0, 0)) ∧ (2 ≤ i + 1 → u.si = id) ∧ (4 ≤ i + 1 → u.wh = wh)) := by
        refine ⟨hx1.setCell (p := ⟨w.heap.size + 1, k, none⟩) rfl _, u', ?_, fun hge => ?_, fun hge => ?_⟩
        · rw [← hu']; exact blk_set hu k x
        · rcases h1 with ⟨hk5, e⟩ | ⟨hk5, e⟩
          · have := h5 hk5
            rw [e] at this
            simpa using this
          · rw [e]
            rcases Nat.lt_or_ge i 2 with hl | hl
            · exact absurd (h51 (by omega)) hk5
            · exact hu5 hl
        · rcases h2 with ⟨hk5, e⟩ | ⟨hk5, e⟩
          · have := h7 hk5
            rw [e] at this
            simpa using this
          · rw [e]
            rcases Nat.lt_or_ge i 4 with hl | hl
            · exact absurd (h73 (by omega)) hk5
            · exact hu7 hl
      have HCALL := Kp.mk hcall
      obtain ⟨F, hF⟩ : ∃ F, F = optF k := ⟨_, rfl⟩
      rw [← hF] at HCALL hent
      simp only [optV] at c0
      rw [← hF] at c0
      clear hmem hk hx hcell hlt h5 h7 h51 h73 hx1 hu hu5 hu7 hcc hcall hu' h1 h2 hF
      go_wp2_with fail
      refine HCALL.out.mono ?_
      rintro e w2 ⟨rfl, rfl⟩
      clear c0 hent HCALL
      have hwi : wrap64 ((i : Int) + 1) = (i : Int) + 1 := by have h3 := HN.out.2.2; unfold wrap64; omega
      go_wp2_with fail
      go_roundw
      case rel => exact ⟨i + 1, by first | (simp [hwi]; done) | (simp; done) | (rw [hwi]; rfl), by omega, HNX⟩
      case measure => simp; omega
    · have hin' : i = n := by omega
      obtain ⟨hx1, u, hu, hu5, hu7⟩ := HJ.out
      have hsi := hu5 (by have := HN.out; omega)
      have hwh := hu7 (by have := HN.out; omega)
      have h0 := hx1.keep HP1.out.1 (by show ¬ w.heap.size = w.heap.size + 1; omega)
      have hbel := HB1.out.trans ((hx1.toBelow (B := w.heap.size) (fun j hj e => by omega) HB1.out.size))
      have HX := Kp.mk hbel
      rw [HWW.out.2.2] at h0
      obtain ⟨a0, a1, a2, a3, a4, a5, a6, a7, a8, a9, a10, a11, a12⟩ := u
      simp only [Opt13.cells] at hu hsi hwh
      subst hsi
      subst hwh
      have HH := Kp.mk (And.intro hu h0)
      clear HJ hx1 hu hu5 hu7 h0 hbel HC HI HG HV HB1 HP1 HS HN HWW
      have hpq : w.heap.size ≠ w.heap.size + 1 := by omega
      by_cases h2 : a2 = 0
      · subst h2
        by_cases h4 : a4 = 0
        · subst h4
          have c2 := blk_cell HH.out.1 2
          have f2 := blk_frozen HH.out.1 2
          have c4 := blk_cell (blk_set HH.out.1 2 (.int .u64 1025)) 4
          have f4 := blk_frozen (blk_set HH.out.1 2 (.int .u64 1025)) 4
          have HQ := Kp.mk (blk_far (p := ⟨w.heap.size + 1, 4, none⟩) (blk_far (p := ⟨w.heap.size + 1, 2, none⟩) HH.out.2 hpq (.int .u64 1025)) hpq (.int .u64 2048))
          have HBE := Kp.mk (bel_set (bel_set HX.out (p := ⟨w.heap.size + 1, 2, none⟩) (Nat.le_succ _) (.int .u64 1025)) (p := ⟨w.heap.size + 1, 4, none⟩) (Nat.le_succ _) (.int .u64 2048))
          have hrg : World.rangeAt ((wr.setCell ⟨w.heap.size + 1, 2, none⟩ (.int .u64 1025)).setCell ⟨w.heap.size + 1, 4, none⟩ (.int .u64 2048)) (w.heap.size + 1) 0 [.int .u64 a0, .int .u64 a1, .int .u64 1025, .bool a3, .int .u64 2048, .bool a5, .bool a6, .bool a7, .int .u64 a8, .bool a9, .bool a10, .int .u64 a11, .int .u64 a12] := range_blk (blk_set (blk_set HH.out.1 2 (.int .u64 1025)) 4 (.int .u64 2048))
          have hth : World.there ((wr.setCell ⟨w.heap.size + 1, 2, none⟩ (.int .u64 1025)).setCell ⟨w.heap.size + 1, 4, none⟩ (.int .u64 2048)) w.heap.size 0 13 := there_blk HQ.out 13 (by decide)
          have HRG := Kp.mk hrg
          have HTH := Kp.mk hth
          clear hrg hth
          have HFIN : Kp ((((wr.setCell ⟨w.heap.size + 1, 2, none⟩ (.int .u64 1025)).setCell ⟨w.heap.size + 1, 4, none⟩ (.int .u64 2048)).setCells w.heap.size 0 [.int .u64 a0, .int .u64 a1, .int .u64 1025, .bool a3, .int .u64 2048, .bool a5, .bool a6, .bool a7, .int .u64 a8, .bool a9, .bool a10, .int .u64 a11, .int .u64 a12]).heap[w.heap.size]? = some (.cells #[.int .u64 a0, .int .u64 a1, .int .u64 1025, .bool a3, .int .u64 2048, .bool a5, .bool a6, .bool a7, .int .u64 a8, .bool a9, .bool a10, .int .u64 a11, .int .u64 a12] 88 (0, 0))) := ⟨blk_setAll [.int .u64 a0, .int .u64 a1, .int .u64 1025, .bool a3, .int .u64 2048, .bool a5, .bool a6, .bool a7, .int .u64 a8, .bool a9, .bool a10, .int .u64 a11, .int .u64 a12] [] [.int .u64 0, .int .u64 0, .int .u64 0, .bool false, .int .u64 0, .bool false, .bool false, .bool false, .int .u64 0, .bool false, .bool false, .int .u64 0, .int .u64 0] _ HQ.out rfl⟩
          clear HH HX
          go_wp2_with (first | (refine wpList_load_mid rfl 88 _ rfl _ _ rfl [.int .u64 a0, .int .u64 a1, .int .u64 1025, .bool a3, .int .u64 2048, .bool a5, .bool a6, .bool a7, .int .u64 a8, .bool a9, .bool a10, .int .u64 a11, .int .u64 a12] _ HRG.out Tryz.underlying88 rfl (by kernel_rfl) ?_) | (refine wpList_store_mid rfl 88 _ _ rfl _ _ #[.int .u64 a0, .int .u64 a1, .int .u64 1025, .bool a3, .int .u64 2048, .bool a5, .bool a6, .bool a7, .int .u64 a8, .bool a9, .bool a10, .int .u64 a11, .int .u64 a12] rfl rfl HTH.out (by kernel_rfl) (by simp [Value.oneCell']) ?_))
          refine bodyPost_ret (res_cell1 rfl _ _ w.heap.size 88 #[.int .u64 a0, .int .u64 a1, .int .u64 1025, .bool a3, .int .u64 2048, .bool a5, .bool a6, .bool a7, .int .u64 a8, .bool a9, .bool a10, .int .u64 a11, .int .u64 a12] _ rfl HFIN.out Tryz.underlying88 rfl (by kernel_rfl)) rfl ?_
          exact ⟨⟨⟨a0, a1, 1025, a3, 2048, a5, a6, a7, a8, a9, a10, a11, a12⟩, rfl, rfl, rfl⟩, bel_setAll (Nat.le_refl _) _ _ HBE.out⟩
        · have h4' : (a4 : Int) ≠ 0 := by omega
          have c2 := blk_cell HH.out.1 2
          have f2 := blk_frozen HH.out.1 2
          have c4 := blk_cell (blk_set HH.out.1 2 (.int .u64 1025)) 4
          have f4 := blk_frozen (blk_set HH.out.1 2 (.int .u64 1025)) 4
          have HQ := Kp.mk (blk_far (p := ⟨w.heap.size + 1, 2, none⟩) HH.out.2 hpq (.int .u64 1025))
          have HBE := Kp.mk (bel_set HX.out (p := ⟨w.heap.size + 1, 2, none⟩) (Nat.le_succ _) (.int .u64 1025))
          have hrg : World.rangeAt (wr.setCell ⟨w.heap.size + 1, 2, none⟩ (.int .u64 1025)) (w.heap.size + 1) 0 [.int .u64 a0, .int .u64 a1, .int .u64 1025, .bool a3, .int .u64 a4, .bool a5, .bool a6, .bool a7, .int .u64 a8, .bool a9, .bool a10, .int .u64 a11, .int .u64 a12] := range_blk (blk_set HH.out.1 2 (.int .u64 1025))
          have hth : World.there (wr.setCell ⟨w.heap.size + 1, 2, none⟩ (.int .u64 1025)) w.heap.size 0 13 := there_blk HQ.out 13 (by decide)
          have HRG := Kp.mk hrg
          have HTH := Kp.mk hth
          clear hrg hth
          have HFIN : Kp (((wr.setCell ⟨w.heap.size + 1, 2, none⟩ (.int .u64 1025)).setCells w.heap.size 0 [.int .u64 a0, .int .u64 a1, .int .u64 1025, .bool a3, .int .u64 a4, .bool a5, .bool a6, .bool a7, .int .u64 a8, .bool a9, .bool a10, .int .u64 a11, .int .u64 a12]).heap[w.heap.size]? = some (.cells #[.int .u64 a0, .int .u64 a1, .int .u64 1025, .bool a3, .int .u64 a4, .bool a5, .bool a6, .bool a7, .int .u64 a8, .bool a9, .bool a10, .int .u64 a11, .int .u64 a12] 88 (0, 0))) := ⟨blk_setAll [.int .u64 a0, .int .u64 a1, .int .u64 1025, .bool a3, .int .u64 a4, .bool a5, .bool a6, .bool a7, .int .u64 a8, .bool a9, .bool a10, .int .u64 a11, .int .u64 a12] [] [.int .u64 0, .int .u64 0, .int .u64 0, .bool false, .int .u64 0, .bool false, .bool false, .bool false, .int .u64 0, .bool false, .bool false, .int .u64 0, .int .u64 0] _ HQ.out rfl⟩
          clear HH HX
          go_wp2_with (first | (refine wpList_load_mid rfl 88 _ rfl _ _ rfl [.int .u64 a0, .int .u64 a1, .int .u64 1025, .bool a3, .int .u64 a4, .bool a5, .bool a6, .bool a7, .int .u64 a8, .bool a9, .bool a10, .int .u64 a11, .int .u64 a12] _ HRG.out Tryz.underlying88 rfl (by kernel_rfl) ?_) | (refine wpList_store_mid rfl 88 _ _ rfl _ _ #[.int .u64 a0, .int .u64 a1, .int .u64 1025, .bool a3, .int .u64 a4, .bool a5, .bool a6, .bool a7, .int .u64 a8, .bool a9, .bool a10, .int .u64 a11, .int .u64 a12] rfl rfl HTH.out (by kernel_rfl) (by simp [Value.oneCell']) ?_))
          refine bodyPost_ret (res_cell1 rfl _ _ w.heap.size 88 #[.int .u64 a0, .int .u64 a1, .int .u64 1025, .bool a3, .int .u64 a4, .bool a5, .bool a6, .bool a7, .int .u64 a8, .bool a9, .bool a10, .int .u64 a11, .int .u64 a12] _ rfl HFIN.out Tryz.underlying88 rfl (by kernel_rfl)) rfl ?_
          exact ⟨⟨⟨a0, a1, 1025, a3, a4, a5, a6, a7, a8, a9, a10, a11, a12⟩, rfl, rfl, rfl⟩, bel_setAll (Nat.le_refl _) _ _ HBE.out⟩
      · have h2' : (a2 : Int) ≠ 0 := by omega
        by_cases h4 : a4 = 0
        · subst h4
          have c2 := blk_cell HH.out.1 2
          have f2 := blk_frozen HH.out.1 2
          have c4 := blk_cell HH.out.1 4
          have f4 := blk_frozen HH.out.1 4
          have HQ := Kp.mk (blk_far (p := ⟨w.heap.size + 1, 4, none⟩) HH.out.2 hpq (.int .u64 2048))
          have HBE := Kp.mk (bel_set HX.out (p := ⟨w.heap.size + 1, 4, none⟩) (Nat.le_succ _) (.int .u64 2048))
          have hrg : World.rangeAt (wr.setCell ⟨w.heap.size + 1, 4, none⟩ (.int .u64 2048)) (w.heap.size + 1) 0 [.int .u64 a0, .int .u64 a1, .int .u64 a2, .bool a3, .int .u64 2048, .bool a5, .bool a6, .bool a7, .int .u64 a8, .bool a9, .bool a10, .int .u64 a11, .int .u64 a12] := range_blk (blk_set HH.out.1 4 (.int .u64 2048))
          have hth : World.there (wr.setCell ⟨w.heap.size + 1, 4, none⟩ (.int .u64 2048)) w.heap.size 0 13 := there_blk HQ.out 13 (by decide)
          have HRG := Kp.mk hrg
          have HTH := Kp.mk hth
          clear hrg hth
          have HFIN : Kp (((wr.setCell ⟨w.heap.size + 1, 4, none⟩ (.int .u64 2048)).setCells w.heap.size 0 [.int .u64 a0, .int .u64 a1, .int .u64 a2, .bool a3, .int .u64 2048, .bool a5, .bool a6, .bool a7, .int .u64 a8, .bool a9, .bool a10, .int .u64 a11, .int .u64 a12]).heap[w.heap.size]? = some (.cells #[.int .u64 a0, .int .u64 a1, .int .u64 a2, .bool a3, .int .u64 2048, .bool a5, .bool a6, .bool a7, .int .u64 a8, .bool a9, .bool a10, .int .u64 a11, .int .u64 a12] 88 (0, 0))) := ⟨blk_setAll [.int .u64 a0, .int .u64 a1, .int .u64 a2, .bool a3, .int .u64 2048, .bool a5, .bool a6, .bool a7, .int .u64 a8, .bool a9, .bool a10, .int .u64 a11, .int .u64 a12] [] [.int .u64 0, .int .u64 0, .int .u64 0, .bool false, .int .u64 0, .bool false, .bool false, .bool false, .int .u64 0, .bool false, .bool false, .int .u64 0, .int .u64 0] _ HQ.out rfl⟩
          clear HH HX
          go_wp2_with (first | (refine wpList_load_mid rfl 88 _ rfl _ _ rfl [.int .u64 a0, .int .u64 a1, .int .u64 a2, .bool a3, .int .u64 2048, .bool a5, .bool a6, .bool a7, .int .u64 a8, .bool a9, .bool a10, .int .u64 a11, .int .u64 a12] _ HRG.out Tryz.underlying88 rfl (by kernel_rfl) ?_) | (refine wpList_store_mid rfl 88 _ _ rfl _ _ #[.int .u64 a0, .int .u64 a1, .int .u64 a2, .bool a3, .int .u64 2048, .bool a5, .bool a6, .bool a7, .int .u64 a8, .bool a9, .bool a10, .int .u64 a11, .int .u64 a12] rfl rfl HTH.out (by kernel_rfl) (by simp [Value.oneCell']) ?_))
          refine bodyPost_ret (res_cell1 rfl _ _ w.heap.size 88 #[.int .u64 a0, .int .u64 a1, .int .u64 a2, .bool a3, .int .u64 2048, .bool a5, .bool a6, .bool a7, .int .u64 a8, .bool a9, .bool a10, .int .u64 a11, .int .u64 a12] _ rfl HFIN.out Tryz.underlying88 rfl (by kernel_rfl)) rfl ?_
          exact ⟨⟨⟨a0, a1, a2, a3, 2048, a5, a6, a7, a8, a9, a10, a11, a12⟩, rfl, rfl, rfl⟩, bel_setAll (Nat.le_refl _) _ _ HBE.out⟩
        · have h4' : (a4 : Int) ≠ 0 := by omega
          have c2 := blk_cell HH.out.1 2
          have f2 := blk_frozen HH.out.1 2
          have c4 := blk_cell HH.out.1 4
          have f4 := blk_frozen HH.out.1 4
          have HQ := Kp.mk HH.out.2
          have HBE := Kp.mk HX.out
          have hrg : World.rangeAt wr (w.heap.size + 1) 0 [.int .u64 a0, .int .u64 a1, .int .u64 a2, .bool a3, .int .u64 a4, .bool a5, .bool a6, .bool a7, .int .u64 a8, .bool a9, .bool a10, .int .u64 a11, .int .u64 a12] := range_blk HH.out.1
          have hth : World.there wr w.heap.size 0 13 := there_blk HQ.out 13 (by decide)
          have HRG := Kp.mk hrg
          have HTH := Kp.mk hth
          clear hrg hth
          have HFIN : Kp ((wr.setCells w.heap.size 0 [.int .u64 a0, .int .u64 a1, .int .u64 a2, .bool a3, .int .u64 a4, .bool a5, .bool a6, .bool a7, .int .u64 a8, .bool a9, .bool a10, .int .u64 a11, .int .u64 a12]).heap[w.heap.size]? = some (.cells #[.int .u64 a0, .int .u64 a1, .int .u64 a2, .bool a3, .int .u64 a4, .bool a5, .bool a6, .bool a7, .int .u64 a8, .bool a9, .bool a10, .int .u64 a11, .int .u64 a12] 88 (0, 0))) := ⟨blk_setAll [.int .u64 a0, .int .u64 a1, .int .u64 a2, .bool a3, .int .u64 a4, .bool a5, .bool a6, .bool a7, .int .u64 a8, .bool a9, .bool a10, .int .u64 a11, .int .u64 a12] [] [.int .u64 0, .int .u64 0, .int .u64 0, .bool false, .int .u64 0, .bool false, .bool false, .bool false, .int .u64 0, .bool false, .bool false, .int .u64 0, .int .u64 0] _ HQ.out rfl⟩
          clear HH HX
          go_wp2_with (first | (refine wpList_load_mid rfl 88 _ rfl _ _ rfl [.int .u64 a0, .int .u64 a1, .int .u64 a2, .bool a3, .int .u64 a4, .bool a5, .bool a6, .bool a7, .int .u64 a8, .bool a9, .bool a10, .int .u64 a11, .int .u64 a12] _ HRG.out Tryz.underlying88 rfl (by kernel_rfl) ?_) | (refine wpList_store_mid rfl 88 _ _ rfl _ _ #[.int .u64 a0, .int .u64 a1, .int .u64 a2, .bool a3, .int .u64 a4, .bool a5, .bool a6, .bool a7, .int .u64 a8, .bool a9, .bool a10, .int .u64 a11, .int .u64 a12] rfl rfl HTH.out (by kernel_rfl) (by simp [Value.oneCell']) ?_))
          refine bodyPost_ret (res_cell1 rfl _ _ w.heap.size 88 #[.int .u64 a0, .int .u64 a1, .int .u64 a2, .bool a3, .int .u64 a4, .bool a5, .bool a6, .bool a7, .int .u64 a8, .bool a9, .bool a10, .int .u64 a11, .int .u64 a12] _ rfl HFIN.out Tryz.underlying88 rfl (by kernel_rfl)) rfl ?_
          exact ⟨⟨⟨a0, a1, a2, a3, a4, a5, a6, a7, a8, a9, a10, a11, a12⟩, rfl, rfl, rfl⟩, bel_setAll (Nat.le_refl _) _ _ HBE.out⟩

end Go.Proofs.YtkcpgcaccgahaaaGreatDoor
