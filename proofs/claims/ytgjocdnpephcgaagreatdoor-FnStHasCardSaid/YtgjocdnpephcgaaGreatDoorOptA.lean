/- Some texts in one: Opts, OptAp, OptMk. -/
import Derived.Test.YtgjocdnpephcgaaGreatDoorBase
import Derived.Shelf.Abstract
import Derived.Test.YtgjocdnpephcgaaGreatDoorRdA
import Derived.Deep.MidRow
import Derived.Test.YtgjocdnpephcgaaGreatDoorGrowA
import Derived.Lib.AppendZerosOnto
namespace Go.Proofs.YtgjocdnpephcgaaGreatDoor
open Go.RowKit

/-- Their types by their place. -/
def okO (k : Nat) (x : Value) : Prop := if k = 3 ∨ k = 5 ∨ k = 6 ∨ k = 7 ∨ k = 9 ∨ k = 10 then ∃ b, x = .bool b else ∃ z : Nat, x = .int .u64 z
/-- The function of the option that sets this place. -/
def optF (k : Nat) : FuncId :=
  match k with
  | 0 => 60
  | 1 => 61
  | 2 => 62
  | 3 => 54
  | 4 => 63
  | 5 => 55
  | 6 => 56
  | 7 => 57
  | 9 => 58
  | 10 => 59
  | 11 => 64
  | _ => 65
def optKs : List Nat := [0, 1, 2, 3, 4, 5, 6, 7, 9, 10, 11, 12]
def optV (k c : Nat) : Value := .func (.func (optF k)) #[] #[.pointer (some ⟨c, 0, none⟩)]

set_option maxRecDepth 100000 in
theorem optDo0_calls (g c : Nat) (x : Nat) (w : World) (cs : Array Value) (tg tc : TypeId) (hg : w.heap[g]? = some (.cells cs tg (0, 0))) (hs : 0 < cs.size) (hc : w.heap[c]? = some (.cells #[(.int .u64 x)] tc (0, 0))) :
    Calls Tryz.prog 60 #[.pointer (some ⟨g, 0, none⟩), .pointer (some ⟨c, 0, none⟩)] w fun e w' => e = .returned (.tuple #[]) ∧ w' = w.setCell ⟨g, 0, none⟩ (.int .u64 x) := by
  have c0 := blk_cell hc 0
  have g0 := blk_cell hg 0
  rw [Array.getElem?_eq_getElem hs] at g0
  have f0 := blk_frozen hg 0
  clear hg hc
  go_enter Tryz.func60, Tryz.ntmps60
  go_wp2_with fail
  go_end0
  exact ⟨rfl, rfl⟩
set_option maxRecDepth 100000 in
theorem optMk0_calls (x : Nat) (w : World) :
    Calls Tryz.prog 35 #[(.int .u64 x)] w fun e w' => ∃ c t, e = .returned (optV 0 c) ∧ w'.heap[c]? = some (.cells #[(.int .u64 x)] t (0, 0)) ∧ Below w.heap.size w w' := by
  have hmf : ∀ (fn : Fn) (first cap : Array Value) (w : World), (Instr.makeFunc fn first cap).run Tryz.prog w = .ok (.func fn first cap) w := fun _ _ _ _ => rfl
  have HB0 := Kp.mk (fun o => bel_alloc (Below.refl w.heap.size w) o)
  have HN0 := Kp.mk (fun o => blk_new (w := w) (o := o) (Below.refl _ _))
  go_enter Tryz.func35, Tryz.ntmps35
  go_wp2_with fail
  go_ret
  exact ⟨_, _, rfl, HN0.out _, HB0.out _⟩

set_option maxRecDepth 100000 in
theorem optDo1_calls (g c : Nat) (x : Nat) (w : World) (cs : Array Value) (tg tc : TypeId) (hg : w.heap[g]? = some (.cells cs tg (0, 0))) (hs : 1 < cs.size) (hc : w.heap[c]? = some (.cells #[(.int .u64 x)] tc (0, 0))) :
    Calls Tryz.prog 61 #[.pointer (some ⟨g, 0, none⟩), .pointer (some ⟨c, 0, none⟩)] w fun e w' => e = .returned (.tuple #[]) ∧ w' = w.setCell ⟨g, 1, none⟩ (.int .u64 x) := by
  have c0 := blk_cell hc 0
  have g0 := blk_cell hg 1
  rw [Array.getElem?_eq_getElem hs] at g0
  have f0 := blk_frozen hg 1
  clear hg hc
  go_enter Tryz.func61, Tryz.ntmps61
  go_wp2_with fail
  go_end0
  exact ⟨rfl, rfl⟩
set_option maxRecDepth 100000 in
theorem optMk1_calls (x : Nat) (w : World) :
    Calls Tryz.prog 36 #[(.int .u64 x)] w fun e w' => ∃ c t, e = .returned (optV 1 c) ∧ w'.heap[c]? = some (.cells #[(.int .u64 x)] t (0, 0)) ∧ Below w.heap.size w w' := by
  have hmf : ∀ (fn : Fn) (first cap : Array Value) (w : World), (Instr.makeFunc fn first cap).run Tryz.prog w = .ok (.func fn first cap) w := fun _ _ _ _ => rfl
  have HB0 := Kp.mk (fun o => bel_alloc (Below.refl w.heap.size w) o)
  have HN0 := Kp.mk (fun o => blk_new (w := w) (o := o) (Below.refl _ _))
  go_enter Tryz.func36, Tryz.ntmps36
  go_wp2_with fail
  go_ret
  exact ⟨_, _, rfl, HN0.out _, HB0.out _⟩

set_option maxRecDepth 100000 in
theorem optDo2_calls (g c : Nat) (x : Nat) (w : World) (cs : Array Value) (tg tc : TypeId) (hg : w.heap[g]? = some (.cells cs tg (0, 0))) (hs : 2 < cs.size) (hc : w.heap[c]? = some (.cells #[(.int .u64 x)] tc (0, 0))) :
    Calls Tryz.prog 62 #[.pointer (some ⟨g, 0, none⟩), .pointer (some ⟨c, 0, none⟩)] w fun e w' => e = .returned (.tuple #[]) ∧ w' = w.setCell ⟨g, 2, none⟩ (.int .u64 x) := by
  have c0 := blk_cell hc 0
  have g0 := blk_cell hg 2
  rw [Array.getElem?_eq_getElem hs] at g0
  have f0 := blk_frozen hg 2
  clear hg hc
  go_enter Tryz.func62, Tryz.ntmps62
  go_wp2_with fail
  go_end0
  exact ⟨rfl, rfl⟩
set_option maxRecDepth 100000 in
theorem optMk2_calls (x : Nat) (w : World) :
    Calls Tryz.prog 37 #[(.int .u64 x)] w fun e w' => ∃ c t, e = .returned (optV 2 c) ∧ w'.heap[c]? = some (.cells #[(.int .u64 x)] t (0, 0)) ∧ Below w.heap.size w w' := by
  have hmf : ∀ (fn : Fn) (first cap : Array Value) (w : World), (Instr.makeFunc fn first cap).run Tryz.prog w = .ok (.func fn first cap) w := fun _ _ _ _ => rfl
  have HB0 := Kp.mk (fun o => bel_alloc (Below.refl w.heap.size w) o)
  have HN0 := Kp.mk (fun o => blk_new (w := w) (o := o) (Below.refl _ _))
  go_enter Tryz.func37, Tryz.ntmps37
  go_wp2_with fail
  go_ret
  exact ⟨_, _, rfl, HN0.out _, HB0.out _⟩

set_option maxRecDepth 100000 in
theorem optDo3_calls (g c : Nat) (x : Bool) (w : World) (cs : Array Value) (tg tc : TypeId) (hg : w.heap[g]? = some (.cells cs tg (0, 0))) (hs : 3 < cs.size) (hc : w.heap[c]? = some (.cells #[(.bool x)] tc (0, 0))) :
    Calls Tryz.prog 54 #[.pointer (some ⟨g, 0, none⟩), .pointer (some ⟨c, 0, none⟩)] w fun e w' => e = .returned (.tuple #[]) ∧ w' = w.setCell ⟨g, 3, none⟩ (.bool x) := by
  have c0 := blk_cell hc 0
  have g0 := blk_cell hg 3
  rw [Array.getElem?_eq_getElem hs] at g0
  have f0 := blk_frozen hg 3
  clear hg hc
  go_enter Tryz.func54, Tryz.ntmps54
  go_wp2_with fail
  go_end0
  exact ⟨rfl, rfl⟩
set_option maxRecDepth 100000 in
theorem optMk3_calls (x : Bool) (w : World) :
    Calls Tryz.prog 29 #[(.bool x)] w fun e w' => ∃ c t, e = .returned (optV 3 c) ∧ w'.heap[c]? = some (.cells #[(.bool x)] t (0, 0)) ∧ Below w.heap.size w w' := by
  have hmf : ∀ (fn : Fn) (first cap : Array Value) (w : World), (Instr.makeFunc fn first cap).run Tryz.prog w = .ok (.func fn first cap) w := fun _ _ _ _ => rfl
  have HB0 := Kp.mk (fun o => bel_alloc (Below.refl w.heap.size w) o)
  have HN0 := Kp.mk (fun o => blk_new (w := w) (o := o) (Below.refl _ _))
  go_enter Tryz.func29, Tryz.ntmps29
  go_wp2_with fail
  go_ret
  exact ⟨_, _, rfl, HN0.out _, HB0.out _⟩

set_option maxRecDepth 100000 in
theorem optDo4_calls (g c : Nat) (x : Nat) (w : World) (cs : Array Value) (tg tc : TypeId) (hg : w.heap[g]? = some (.cells cs tg (0, 0))) (hs : 4 < cs.size) (hc : w.heap[c]? = some (.cells #[(.int .u64 x)] tc (0, 0))) :
    Calls Tryz.prog 63 #[.pointer (some ⟨g, 0, none⟩), .pointer (some ⟨c, 0, none⟩)] w fun e w' => e = .returned (.tuple #[]) ∧ w' = w.setCell ⟨g, 4, none⟩ (.int .u64 x) := by
  have c0 := blk_cell hc 0
  have g0 := blk_cell hg 4
  rw [Array.getElem?_eq_getElem hs] at g0
  have f0 := blk_frozen hg 4
  clear hg hc
  go_enter Tryz.func63, Tryz.ntmps63
  go_wp2_with fail
  go_end0
  exact ⟨rfl, rfl⟩
set_option maxRecDepth 100000 in
theorem optMk4_calls (x : Nat) (w : World) :
    Calls Tryz.prog 38 #[(.int .u64 x)] w fun e w' => ∃ c t, e = .returned (optV 4 c) ∧ w'.heap[c]? = some (.cells #[(.int .u64 x)] t (0, 0)) ∧ Below w.heap.size w w' := by
  have hmf : ∀ (fn : Fn) (first cap : Array Value) (w : World), (Instr.makeFunc fn first cap).run Tryz.prog w = .ok (.func fn first cap) w := fun _ _ _ _ => rfl
  have HB0 := Kp.mk (fun o => bel_alloc (Below.refl w.heap.size w) o)
  have HN0 := Kp.mk (fun o => blk_new (w := w) (o := o) (Below.refl _ _))
  go_enter Tryz.func38, Tryz.ntmps38
  go_wp2_with fail
  go_ret
  exact ⟨_, _, rfl, HN0.out _, HB0.out _⟩

set_option maxRecDepth 100000 in
theorem optDo5_calls (g c : Nat) (x : Bool) (w : World) (cs : Array Value) (tg tc : TypeId) (hg : w.heap[g]? = some (.cells cs tg (0, 0))) (hs : 5 < cs.size) (hc : w.heap[c]? = some (.cells #[(.bool x)] tc (0, 0))) :
    Calls Tryz.prog 55 #[.pointer (some ⟨g, 0, none⟩), .pointer (some ⟨c, 0, none⟩)] w fun e w' => e = .returned (.tuple #[]) ∧ w' = w.setCell ⟨g, 5, none⟩ (.bool x) := by
  have c0 := blk_cell hc 0
  have g0 := blk_cell hg 5
  rw [Array.getElem?_eq_getElem hs] at g0
  have f0 := blk_frozen hg 5
  clear hg hc
  go_enter Tryz.func55, Tryz.ntmps55
  go_wp2_with fail
  go_end0
  exact ⟨rfl, rfl⟩
set_option maxRecDepth 100000 in
theorem optMk5_calls (x : Bool) (w : World) :
    Calls Tryz.prog 30 #[(.bool x)] w fun e w' => ∃ c t, e = .returned (optV 5 c) ∧ w'.heap[c]? = some (.cells #[(.bool x)] t (0, 0)) ∧ Below w.heap.size w w' := by
  have hmf : ∀ (fn : Fn) (first cap : Array Value) (w : World), (Instr.makeFunc fn first cap).run Tryz.prog w = .ok (.func fn first cap) w := fun _ _ _ _ => rfl
  have HB0 := Kp.mk (fun o => bel_alloc (Below.refl w.heap.size w) o)
  have HN0 := Kp.mk (fun o => blk_new (w := w) (o := o) (Below.refl _ _))
  go_enter Tryz.func30, Tryz.ntmps30
  go_wp2_with fail
  go_ret
  exact ⟨_, _, rfl, HN0.out _, HB0.out _⟩

set_option maxRecDepth 100000 in
theorem optDo6_calls (g c : Nat) (x : Bool) (w : World) (cs : Array Value) (tg tc : TypeId) (hg : w.heap[g]? = some (.cells cs tg (0, 0))) (hs : 6 < cs.size) (hc : w.heap[c]? = some (.cells #[(.bool x)] tc (0, 0))) :
    Calls Tryz.prog 56 #[.pointer (some ⟨g, 0, none⟩), .pointer (some ⟨c, 0, none⟩)] w fun e w' => e = .returned (.tuple #[]) ∧ w' = w.setCell ⟨g, 6, none⟩ (.bool x) := by
  have c0 := blk_cell hc 0
  have g0 := blk_cell hg 6
  rw [Array.getElem?_eq_getElem hs] at g0
  have f0 := blk_frozen hg 6
  clear hg hc
  go_enter Tryz.func56, Tryz.ntmps56
  go_wp2_with fail
  go_end0
  exact ⟨rfl, rfl⟩
set_option maxRecDepth 100000 in
theorem optMk6_calls (x : Bool) (w : World) :
    Calls Tryz.prog 31 #[(.bool x)] w fun e w' => ∃ c t, e = .returned (optV 6 c) ∧ w'.heap[c]? = some (.cells #[(.bool x)] t (0, 0)) ∧ Below w.heap.size w w' := by
  have hmf : ∀ (fn : Fn) (first cap : Array Value) (w : World), (Instr.makeFunc fn first cap).run Tryz.prog w = .ok (.func fn first cap) w := fun _ _ _ _ => rfl
  have HB0 := Kp.mk (fun o => bel_alloc (Below.refl w.heap.size w) o)
  have HN0 := Kp.mk (fun o => blk_new (w := w) (o := o) (Below.refl _ _))
  go_enter Tryz.func31, Tryz.ntmps31
  go_wp2_with fail
  go_ret
  exact ⟨_, _, rfl, HN0.out _, HB0.out _⟩

set_option maxRecDepth 100000 in
theorem optDo7_calls (g c : Nat) (x : Bool) (w : World) (cs : Array Value) (tg tc : TypeId) (hg : w.heap[g]? = some (.cells cs tg (0, 0))) (hs : 7 < cs.size) (hc : w.heap[c]? = some (.cells #[(.bool x)] tc (0, 0))) :
    Calls Tryz.prog 57 #[.pointer (some ⟨g, 0, none⟩), .pointer (some ⟨c, 0, none⟩)] w fun e w' => e = .returned (.tuple #[]) ∧ w' = w.setCell ⟨g, 7, none⟩ (.bool x) := by
  have c0 := blk_cell hc 0
  have g0 := blk_cell hg 7
  rw [Array.getElem?_eq_getElem hs] at g0
  have f0 := blk_frozen hg 7
  clear hg hc
  go_enter Tryz.func57, Tryz.ntmps57
  go_wp2_with fail
  go_end0
  exact ⟨rfl, rfl⟩
set_option maxRecDepth 100000 in
theorem optMk7_calls (x : Bool) (w : World) :
    Calls Tryz.prog 32 #[(.bool x)] w fun e w' => ∃ c t, e = .returned (optV 7 c) ∧ w'.heap[c]? = some (.cells #[(.bool x)] t (0, 0)) ∧ Below w.heap.size w w' := by
  have hmf : ∀ (fn : Fn) (first cap : Array Value) (w : World), (Instr.makeFunc fn first cap).run Tryz.prog w = .ok (.func fn first cap) w := fun _ _ _ _ => rfl
  have HB0 := Kp.mk (fun o => bel_alloc (Below.refl w.heap.size w) o)
  have HN0 := Kp.mk (fun o => blk_new (w := w) (o := o) (Below.refl _ _))
  go_enter Tryz.func32, Tryz.ntmps32
  go_wp2_with fail
  go_ret
  exact ⟨_, _, rfl, HN0.out _, HB0.out _⟩

set_option maxRecDepth 100000 in
theorem optDo9_calls (g c : Nat) (x : Bool) (w : World) (cs : Array Value) (tg tc : TypeId) (hg : w.heap[g]? = some (.cells cs tg (0, 0))) (hs : 9 < cs.size) (hc : w.heap[c]? = some (.cells #[(.bool x)] tc (0, 0))) :
    Calls Tryz.prog 58 #[.pointer (some ⟨g, 0, none⟩), .pointer (some ⟨c, 0, none⟩)] w fun e w' => e = .returned (.tuple #[]) ∧ w' = w.setCell ⟨g, 9, none⟩ (.bool x) := by
  have c0 := blk_cell hc 0
  have g0 := blk_cell hg 9
  rw [Array.getElem?_eq_getElem hs] at g0
  have f0 := blk_frozen hg 9
  clear hg hc
  go_enter Tryz.func58, Tryz.ntmps58
  go_wp2_with fail
  go_end0
  exact ⟨rfl, rfl⟩
set_option maxRecDepth 100000 in
theorem optMk9_calls (x : Bool) (w : World) :
    Calls Tryz.prog 33 #[(.bool x)] w fun e w' => ∃ c t, e = .returned (optV 9 c) ∧ w'.heap[c]? = some (.cells #[(.bool x)] t (0, 0)) ∧ Below w.heap.size w w' := by
  have hmf : ∀ (fn : Fn) (first cap : Array Value) (w : World), (Instr.makeFunc fn first cap).run Tryz.prog w = .ok (.func fn first cap) w := fun _ _ _ _ => rfl
  have HB0 := Kp.mk (fun o => bel_alloc (Below.refl w.heap.size w) o)
  have HN0 := Kp.mk (fun o => blk_new (w := w) (o := o) (Below.refl _ _))
  go_enter Tryz.func33, Tryz.ntmps33
  go_wp2_with fail
  go_ret
  exact ⟨_, _, rfl, HN0.out _, HB0.out _⟩

set_option maxRecDepth 100000 in
theorem optDo10_calls (g c : Nat) (x : Bool) (w : World) (cs : Array Value) (tg tc : TypeId) (hg : w.heap[g]? = some (.cells cs tg (0, 0))) (hs : 10 < cs.size) (hc : w.heap[c]? = some (.cells #[(.bool x)] tc (0, 0))) :
    Calls Tryz.prog 59 #[.pointer (some ⟨g, 0, none⟩), .pointer (some ⟨c, 0, none⟩)] w fun e w' => e = .returned (.tuple #[]) ∧ w' = w.setCell ⟨g, 10, none⟩ (.bool x) := by
  have c0 := blk_cell hc 0
  have g0 := blk_cell hg 10
  rw [Array.getElem?_eq_getElem hs] at g0
  have f0 := blk_frozen hg 10
  clear hg hc
  go_enter Tryz.func59, Tryz.ntmps59
  go_wp2_with fail
  go_end0
  exact ⟨rfl, rfl⟩
set_option maxRecDepth 100000 in
theorem optMk10_calls (x : Bool) (w : World) :
    Calls Tryz.prog 34 #[(.bool x)] w fun e w' => ∃ c t, e = .returned (optV 10 c) ∧ w'.heap[c]? = some (.cells #[(.bool x)] t (0, 0)) ∧ Below w.heap.size w w' := by
  have hmf : ∀ (fn : Fn) (first cap : Array Value) (w : World), (Instr.makeFunc fn first cap).run Tryz.prog w = .ok (.func fn first cap) w := fun _ _ _ _ => rfl
  have HB0 := Kp.mk (fun o => bel_alloc (Below.refl w.heap.size w) o)
  have HN0 := Kp.mk (fun o => blk_new (w := w) (o := o) (Below.refl _ _))
  go_enter Tryz.func34, Tryz.ntmps34
  go_wp2_with fail
  go_ret
  exact ⟨_, _, rfl, HN0.out _, HB0.out _⟩

set_option maxRecDepth 100000 in
theorem optDo11_calls (g c : Nat) (x : Nat) (w : World) (cs : Array Value) (tg tc : TypeId) (hg : w.heap[g]? = some (.cells cs tg (0, 0))) (hs : 11 < cs.size) (hc : w.heap[c]? = some (.cells #[(.int .u64 x)] tc (0, 0))) :
    Calls Tryz.prog 64 #[.pointer (some ⟨g, 0, none⟩), .pointer (some ⟨c, 0, none⟩)] w fun e w' => e = .returned (.tuple #[]) ∧ w' = w.setCell ⟨g, 11, none⟩ (.int .u64 x) := by
  have c0 := blk_cell hc 0
  have g0 := blk_cell hg 11
  rw [Array.getElem?_eq_getElem hs] at g0
  have f0 := blk_frozen hg 11
  clear hg hc
  go_enter Tryz.func64, Tryz.ntmps64
  go_wp2_with fail
  go_end0
  exact ⟨rfl, rfl⟩
set_option maxRecDepth 100000 in
theorem optMk11_calls (x : Nat) (w : World) :
    Calls Tryz.prog 39 #[(.int .u64 x)] w fun e w' => ∃ c t, e = .returned (optV 11 c) ∧ w'.heap[c]? = some (.cells #[(.int .u64 x)] t (0, 0)) ∧ Below w.heap.size w w' := by
  have hmf : ∀ (fn : Fn) (first cap : Array Value) (w : World), (Instr.makeFunc fn first cap).run Tryz.prog w = .ok (.func fn first cap) w := fun _ _ _ _ => rfl
  have HB0 := Kp.mk (fun o => bel_alloc (Below.refl w.heap.size w) o)
  have HN0 := Kp.mk (fun o => blk_new (w := w) (o := o) (Below.refl _ _))
  go_enter Tryz.func39, Tryz.ntmps39
  go_wp2_with fail
  go_ret
  exact ⟨_, _, rfl, HN0.out _, HB0.out _⟩

set_option maxRecDepth 100000 in
theorem optDo12_calls (g c : Nat) (x : Nat) (w : World) (cs : Array Value) (tg tc : TypeId) (hg : w.heap[g]? = some (.cells cs tg (0, 0))) (hs : 12 < cs.size) (hc : w.heap[c]? = some (.cells #[(.int .u64 x)] tc (0, 0))) :
    Calls Tryz.prog 65 #[.pointer (some ⟨g, 0, none⟩), .pointer (some ⟨c, 0, none⟩)] w fun e w' => e = .returned (.tuple #[]) ∧ w' = w.setCell ⟨g, 12, none⟩ (.int .u64 x) := by
  have c0 := blk_cell hc 0
  have g0 := blk_cell hg 12
  rw [Array.getElem?_eq_getElem hs] at g0
  have f0 := blk_frozen hg 12
  clear hg hc
  go_enter Tryz.func65, Tryz.ntmps65
  go_wp2_with fail
  go_end0
  exact ⟨rfl, rfl⟩
set_option maxRecDepth 100000 in
theorem optMk12_calls (x : Nat) (w : World) :
    Calls Tryz.prog 40 #[(.int .u64 x)] w fun e w' => ∃ c t, e = .returned (optV 12 c) ∧ w'.heap[c]? = some (.cells #[(.int .u64 x)] t (0, 0)) ∧ Below w.heap.size w w' := by
  have hmf : ∀ (fn : Fn) (first cap : Array Value) (w : World), (Instr.makeFunc fn first cap).run Tryz.prog w = .ok (.func fn first cap) w := fun _ _ _ _ => rfl
  have HB0 := Kp.mk (fun o => bel_alloc (Below.refl w.heap.size w) o)
  have HN0 := Kp.mk (fun o => blk_new (w := w) (o := o) (Below.refl _ _))
  go_enter Tryz.func40, Tryz.ntmps40
  go_wp2_with fail
  go_ret
  exact ⟨_, _, rfl, HN0.out _, HB0.out _⟩

set_option maxRecDepth 100000 in
/-- An option is called: it sets its place. -/
theorem optDo_calls (k g c : Nat) (x : Value) (w : World) (cs : Array Value) (tg tc : TypeId) (hk : k ∈ optKs) (hx : okO k x) (hg : w.heap[g]? = some (.cells cs tg (0, 0))) (hs : cs.size = 13) (hc : w.heap[c]? = some (.cells #[x] tc (0, 0))) :
    Calls Tryz.prog (optF k) #[.pointer (some ⟨g, 0, none⟩), .pointer (some ⟨c, 0, none⟩)] w fun e w' => e = .returned (.tuple #[]) ∧ w' = w.setCell ⟨g, k, none⟩ x := by
  simp only [optKs, List.mem_cons, List.not_mem_nil, or_false] at hk
  rcases hk with rfl | rfl | rfl | rfl | rfl | rfl | rfl | rfl | rfl | rfl | rfl | rfl
  · obtain ⟨z, rfl⟩ : ∃ z : Nat, x = .int .u64 z := by simpa [okO] using hx
    exact optDo0_calls g c z w cs tg tc hg (by omega) hc
  · obtain ⟨z, rfl⟩ : ∃ z : Nat, x = .int .u64 z := by simpa [okO] using hx
    exact optDo1_calls g c z w cs tg tc hg (by omega) hc
  · obtain ⟨z, rfl⟩ : ∃ z : Nat, x = .int .u64 z := by simpa [okO] using hx
    exact optDo2_calls g c z w cs tg tc hg (by omega) hc
  · obtain ⟨z, rfl⟩ : ∃ z, x = .bool z := by simpa [okO] using hx
    exact optDo3_calls g c z w cs tg tc hg (by omega) hc
  · obtain ⟨z, rfl⟩ : ∃ z : Nat, x = .int .u64 z := by simpa [okO] using hx
    exact optDo4_calls g c z w cs tg tc hg (by omega) hc
  · obtain ⟨z, rfl⟩ : ∃ z, x = .bool z := by simpa [okO] using hx
    exact optDo5_calls g c z w cs tg tc hg (by omega) hc
  · obtain ⟨z, rfl⟩ : ∃ z, x = .bool z := by simpa [okO] using hx
    exact optDo6_calls g c z w cs tg tc hg (by omega) hc
  · obtain ⟨z, rfl⟩ : ∃ z, x = .bool z := by simpa [okO] using hx
    exact optDo7_calls g c z w cs tg tc hg (by omega) hc
  · obtain ⟨z, rfl⟩ : ∃ z, x = .bool z := by simpa [okO] using hx
    exact optDo9_calls g c z w cs tg tc hg (by omega) hc
  · obtain ⟨z, rfl⟩ : ∃ z, x = .bool z := by simpa [okO] using hx
    exact optDo10_calls g c z w cs tg tc hg (by omega) hc
  · obtain ⟨z, rfl⟩ : ∃ z : Nat, x = .int .u64 z := by simpa [okO] using hx
    exact optDo11_calls g c z w cs tg tc hg (by omega) hc
  · obtain ⟨z, rfl⟩ : ∃ z : Nat, x = .int .u64 z := by simpa [okO] using hx
    exact optDo12_calls g c z w cs tg tc hg (by omega) hc
theorem optF_ent (k : Nat) (hk : k ∈ optKs) : ∀ args w, (callFunc (optF k) args).run Tryz.prog w = .ok (.enter (optF k) args) w := by
  simp only [optKs, List.mem_cons, List.not_mem_nil, or_false] at hk
  rcases hk with rfl | rfl | rfl | rfl | rfl | rfl | rfl | rfl | rfl | rfl | rfl | rfl
  · exact enters_of Tryz.func60 (by kernel_rfl) rfl
  · exact enters_of Tryz.func61 (by kernel_rfl) rfl
  · exact enters_of Tryz.func62 (by kernel_rfl) rfl
  · exact enters_of Tryz.func54 (by kernel_rfl) rfl
  · exact enters_of Tryz.func63 (by kernel_rfl) rfl
  · exact enters_of Tryz.func55 (by kernel_rfl) rfl
  · exact enters_of Tryz.func56 (by kernel_rfl) rfl
  · exact enters_of Tryz.func57 (by kernel_rfl) rfl
  · exact enters_of Tryz.func58 (by kernel_rfl) rfl
  · exact enters_of Tryz.func59 (by kernel_rfl) rfl
  · exact enters_of Tryz.func64 (by kernel_rfl) rfl
  · exact enters_of Tryz.func65 (by kernel_rfl) rfl

end Go.Proofs.YtgjocdnpephcgaaGreatDoor
namespace Go.Proofs.YtgjocdnpephcgaaGreatDoor
open Go.RowKit

/-- The options' values. -/
structure Opt13 where
  dp : Nat
  ip : Nat
  ic : Nat
  z : Bool
  mc : Nat
  si : Bool
  dup : Bool
  wh : Bool
  tr : Nat
  v1 : Bool
  tc : Bool
  mh : Nat
  ms : Nat
def Opt13.cells (u : Opt13) : Array Value := #[.int .u64 u.dp, .int .u64 u.ip, .int .u64 u.ic, .bool u.z, .int .u64 u.mc, .bool u.si, .bool u.dup, .bool u.wh, .int .u64 u.tr, .bool u.v1, .bool u.tc, .int .u64 u.mh, .int .u64 u.ms]
theorem Opt13.set (u : Opt13) (k : Nat) (x : Value) (hk : k ∈ optKs) (hx : okO k x) : ∃ u' : Opt13, u.cells.setIfInBounds k x = u'.cells ∧ ((k = 5 ∧ x = .bool u'.si) ∨ (k ≠ 5 ∧ u'.si = u.si)) ∧ ((k = 7 ∧ x = .bool u'.wh) ∨ (k ≠ 7 ∧ u'.wh = u.wh)) := by
  simp only [optKs, List.mem_cons, List.not_mem_nil, or_false] at hk
  rcases hk with rfl | rfl | rfl | rfl | rfl | rfl | rfl | rfl | rfl | rfl | rfl | rfl
  · obtain ⟨z, rfl⟩ : ∃ z : Nat, x = .int .u64 z := by simpa [okO] using hx
    exact ⟨{ u with dp := z }, rfl, .inr ⟨by decide, rfl⟩, .inr ⟨by decide, rfl⟩⟩
  · obtain ⟨z, rfl⟩ : ∃ z : Nat, x = .int .u64 z := by simpa [okO] using hx
    exact ⟨{ u with ip := z }, rfl, .inr ⟨by decide, rfl⟩, .inr ⟨by decide, rfl⟩⟩
  · obtain ⟨z, rfl⟩ : ∃ z : Nat, x = .int .u64 z := by simpa [okO] using hx
    exact ⟨{ u with ic := z }, rfl, .inr ⟨by decide, rfl⟩, .inr ⟨by decide, rfl⟩⟩
  · obtain ⟨z, rfl⟩ : ∃ z, x = .bool z := by simpa [okO] using hx
    exact ⟨{ u with z := z }, rfl, .inr ⟨by decide, rfl⟩, .inr ⟨by decide, rfl⟩⟩
  · obtain ⟨z, rfl⟩ : ∃ z : Nat, x = .int .u64 z := by simpa [okO] using hx
    exact ⟨{ u with mc := z }, rfl, .inr ⟨by decide, rfl⟩, .inr ⟨by decide, rfl⟩⟩
  · obtain ⟨z, rfl⟩ : ∃ z, x = .bool z := by simpa [okO] using hx
    exact ⟨{ u with si := z }, rfl, .inl ⟨rfl, rfl⟩, .inr ⟨by decide, rfl⟩⟩
  · obtain ⟨z, rfl⟩ : ∃ z, x = .bool z := by simpa [okO] using hx
    exact ⟨{ u with dup := z }, rfl, .inr ⟨by decide, rfl⟩, .inr ⟨by decide, rfl⟩⟩
  · obtain ⟨z, rfl⟩ : ∃ z, x = .bool z := by simpa [okO] using hx
    exact ⟨{ u with wh := z }, rfl, .inr ⟨by decide, rfl⟩, .inl ⟨rfl, rfl⟩⟩
  · obtain ⟨z, rfl⟩ : ∃ z, x = .bool z := by simpa [okO] using hx
    exact ⟨{ u with v1 := z }, rfl, .inr ⟨by decide, rfl⟩, .inr ⟨by decide, rfl⟩⟩
  · obtain ⟨z, rfl⟩ : ∃ z, x = .bool z := by simpa [okO] using hx
    exact ⟨{ u with tc := z }, rfl, .inr ⟨by decide, rfl⟩, .inr ⟨by decide, rfl⟩⟩
  · obtain ⟨z, rfl⟩ : ∃ z : Nat, x = .int .u64 z := by simpa [okO] using hx
    exact ⟨{ u with mh := z }, rfl, .inr ⟨by decide, rfl⟩, .inr ⟨by decide, rfl⟩⟩
  · obtain ⟨z, rfl⟩ : ∃ z : Nat, x = .int .u64 z := by simpa [okO] using hx
    exact ⟨{ u with ms := z }, rfl, .inr ⟨by decide, rfl⟩, .inr ⟨by decide, rfl⟩⟩

/-- The variables that the options hold. -/
def OptsIn (w : World) (E : List (Nat × Nat × Value)) : Prop := ∀ y ∈ E, y.1 ∈ optKs ∧ okO y.1 y.2.2 ∧ ∃ t, w.heap[y.2.1]? = some (.cells #[y.2.2] t (0, 0))
theorem OptsIn.below {w w1 : World} {E : List (Nat × Nat × Value)} (h : OptsIn w E) (hb : Below w.heap.size w w1) : OptsIn w1 E := fun y hy => by
  obtain ⟨h1, h2, t, h3⟩ := h y hy
  exact ⟨h1, h2, t, blk_keep h3 hb⟩
/-- A slice of options. -/
structure RdO (w : World) (A : Option Addr) (n : Nat) (E : List (Nat × Nat × Value)) : Prop where
  len : E.length = n
  lies : ∃ g o, A = some ⟨g, o, none⟩ ∧ ∀ i (h : i < E.length), w.cell? ⟨g, o + i, none⟩ = some (optV E[i].1 E[i].2.1)
  ins : OptsIn w E
theorem RdO.below {w w1 : World} {A : Option Addr} {n : Nat} {E : List (Nat × Nat × Value)} (h : RdO w A n E) (hb : Below w.heap.size w w1) : RdO w1 A n E := by
  obtain ⟨h1, ⟨g, o, h2, h3⟩, h4⟩ := h
  exact ⟨h1, ⟨g, o, h2, fun i hi => cell_bel hb (h3 i hi)⟩, h4.below hb⟩

theorem range_blk {w : World} {g : Nat} {t : TypeId} {cs : List Value} (h : w.heap[g]? = some (.cells cs.toArray t (0, 0))) : w.rangeAt g 0 cs := fun j v hv => by
  rw [blk_cell h (0 + j), Nat.zero_add]
  simpa using hv
theorem there_blk {w : World} {g : Nat} {t : TypeId} {cs : Array Value} (h : w.heap[g]? = some (.cells cs t (0, 0))) (n : Nat) (hn : n ≤ cs.size) : w.there g 0 n := fun j hj => by
  rw [Nat.zero_add]
  exact ⟨by rw [blk_cell h j, Array.getElem?_eq_getElem (by omega)]; simp, blk_frozen h j⟩
theorem blk_setAll {g : Nat} {t : TypeId} : ∀ (vs : List Value) (pre cs : List Value) (w : World), w.heap[g]? = some (.cells (pre ++ cs).toArray t (0, 0)) → cs.length = vs.length → (w.setCells g pre.length vs).heap[g]? = some (.cells (pre ++ vs).toArray t (0, 0))
  | [], pre, cs, w, h, hl => by
    have : cs = [] := List.length_eq_zero_iff.1 hl
    rw [this] at h
    exact h
  | v :: vs, pre, c :: cs, w, h, hl => by
    have h1 := blk_set h pre.length v
    have h2 : ((pre ++ c :: cs).toArray.setIfInBounds pre.length v) = ((pre ++ [v]) ++ cs).toArray := by
      simp
    rw [h2] at h1
    have h3 := blk_setAll vs (pre ++ [v]) cs _ h1 (by simpa using hl)
    rw [show (pre ++ [v]).length = pre.length + 1 by simp] at h3
    rw [show pre ++ v :: vs = pre ++ [v] ++ vs by simp]
    exact h3
theorem bel_setAll {w W : World} {g : Nat} (hg : w.heap.size ≤ g) : ∀ (vs : List Value) (o : Nat), Below w.heap.size w W → Below w.heap.size w (W.setCells g o vs)
  | [], _, h => h
  | v :: vs, o, h => by
    have h1 : Below w.heap.size w (W.setCell ⟨g, o, none⟩ v) := bel_set h (p := ⟨g, o, none⟩) hg v
    exact bel_setAll hg vs (o + 1) h1
set_option maxHeartbeats 8000000 in
set_option maxRecDepth 100000 in
/-- car.ApplyOptions. -/
theorem applyOpts_calls (A : Option Addr) (n c : Nat) (E : List (Nat × Nat × Value)) (id wh : Bool) (w : World) (hr : RdO w A n E) (hn : 8 ≤ n) (hn1 : n ≤ 100) (h5 : ∀ y ∈ E, y.1 = 5 → y.2.2 = .bool id) (h7 : ∀ y ∈ E, y.1 = 7 → y.2.2 = .bool wh) (h51 : ∃ a, E[1]? = some (5, a)) (h73 : ∃ a, E[3]? = some (7, a)) :
    Calls Tryz.prog 17 #[.slice A n c] w fun e w' => (∃ u : Opt13, u.si = id ∧ u.wh = wh ∧ e = .returned (.agg u.cells)) ∧ Below w.heap.size w w' := by
  obtain ⟨hlen, ⟨g, o, rfl, hc⟩, hin⟩ := hr
  obtain ⟨C0, hC0⟩ : ∃ C, C = Obj.cells #[.int .u64 0, .int .u64 0, .int .u64 0, .bool false, .int .u64 0, .bool false, .bool false, .bool false, .int .u64 0, .bool false, .bool false, .int .u64 0, .int .u64 0] 50 := ⟨_, rfl⟩
  obtain ⟨u0, hu0⟩ : ∃ u : Opt13, u = ⟨0, 0, 0, false, 0, false, false, false, 9223372036854775807, false, false, 33554432, 8388608⟩ := ⟨_, rfl⟩
  have hb1 : Below w.heap.size w ((w.alloc C0).alloc (.cells u0.cells 50)) := bel_alloc (bel_alloc (Below.refl _ _) _) _
  have hp1 : ((w.alloc C0).alloc (.cells u0.cells 50)).heap[w.heap.size + 1]? = some (.cells u0.cells 50 (0, 0)) := blk_new2 (Below.refl _ _)
  have hp0 : ((w.alloc C0).alloc (.cells u0.cells 50)).heap[w.heap.size]? = some C0 := blk_new (bel_alloc (Below.refl _ _) _)
  have hu0c : u0.cells = #[.int .u64 0, .int .u64 0, .int .u64 0, .bool false, .int .u64 0, .bool false, .bool false, .bool false, .int .u64 9223372036854775807, .bool false, .bool false, .int .u64 33554432, .int .u64 8388608] := by rw [hu0]; rfl
  obtain ⟨W1, hW1⟩ : ∃ W, W = ((w.alloc C0).alloc (.cells u0.cells 50)) := ⟨_, rfl⟩
  rw [← hW1] at hb1 hp1 hp0
  have HC := Kp.mk (fun i h => cell_bel hb1 (hc i h))
  have HI := Kp.mk (hin.below hb1)
  have HG : Kp (g < w.heap.size) := ⟨World.block_lt_of_cell? w _ (hc 0 (by omega))⟩
  have HV : Kp (∀ y ∈ E, y.2.1 < w.heap.size) := ⟨fun y hy => by obtain ⟨_, _, t, h⟩ := hin y hy; exact (Array.getElem?_eq_some_iff.1 h).1⟩
  have HB1 := Kp.mk hb1
  have HP1 := Kp.mk (And.intro hp0 hp1)
  have HS := Kp.mk (And.intro h5 (And.intro h7 (And.intro h51 h73)))
  have HN := Kp.mk (And.intro hlen (And.intro hn hn1))
  have HWW := Kp.mk (And.intro hW1 (And.intro hu0c hC0))
  clear hc hin hb1 hp1 hp0 h5 h7 h51 h73 hlen hn hn1 hu0 hu0c hC0 hW1
  go_enter Tryz.func17, Tryz.ntmps17
  go_wp2_with fail
  rw [← HWW.out.2.1, ← HWW.out.2.2, ← HWW.out.1]
  go_loopw [5, 9] (fun _ vi wr => ∃ i : Nat, vi = .int .i64 (i : Int) ∧ i ≤ n ∧ Kp (Ex (fun j => j = w.heap.size + 1) W1 wr ∧ ∃ u : Opt13, wr.heap[w.heap.size + 1]? = some (.cells u.cells 50 (0, 0)) ∧ (2 ≤ i → u.si = id) ∧ (4 ≤ i → u.wh = wh)))
    (fun _ vi _ => n - (match vi with | .int _ z => z.toNat | _ => 0))
  case atStart => exact ⟨0, rfl, Nat.zero_le _, ⟨Ex.refl _ _, u0, HP1.out.2, fun h => by omega, fun h => by omega⟩⟩
  case round =>
    obtain ⟨i, rfl, hi, HJ⟩ := hrel
    by_cases hin : i < n
    · have hil : i < E.length := by rw [HN.out.1]; exact hin
      have c0 : wr.cell? ⟨g, o + i, none⟩ = some (optV E[i].1 E[i].2.1) := HJ.out.1.cell (HC.out i hil) (by have := HG.out; show ¬ g = w.heap.size + 1; omega)
      have hmem := List.getElem_mem hil
      obtain ⟨hk, hx, tc, hcell⟩ := HI.out _ hmem
      have hlt := HV.out _ hmem
      have h5 := HS.out.1 _ hmem
      have h7 := HS.out.2.1 _ hmem
      have h51 : i = 1 → E[i].1 = 5 := by rintro rfl; obtain ⟨a, ha⟩ := HS.out.2.2.1; rw [List.getElem?_eq_getElem hil] at ha; rw [Option.some.inj ha]
      have h73 : i = 3 → E[i].1 = 7 := by rintro rfl; obtain ⟨a, ha⟩ := HS.out.2.2.2; rw [List.getElem?_eq_getElem hil] at ha; rw [Option.some.inj ha]
      generalize E[i] = y at *
      obtain ⟨k, cc, x⟩ := y
      obtain ⟨hx1, u, hu, hu5, hu7⟩ := HJ.out
      have hcc := hx1.keep hcell (by show ¬ cc = w.heap.size + 1; have : cc < w.heap.size := hlt; omega)
      have hcall := optDo_calls k (w.heap.size + 1) cc x wr u.cells _ tc hk hx hu rfl hcc
      have hent := optF_ent k hk
      obtain ⟨u', hu', h1, h2⟩ := u.set k x hk hx
      have HNX : Kp (Ex (fun j => j = w.heap.size + 1) W1 (wr.setCell ⟨w.heap.size + 1, k, none⟩ x) ∧ ∃ u : Opt13, (wr.setCell ⟨w.heap.size + 1, k, none⟩ x).heap[w.heap.size + 1]? = some (.cells u.cells 50 (0, 0)) ∧ (2 ≤ i + 1 → u.si = id) ∧ (4 ≤ i + 1 → u.wh = wh)) := by
        refine ⟨hx1.setCell (p := ⟨w.heap.size + 1, k, none⟩) rfl _, u', ?_, fun hge => ?_, fun hge => ?_⟩
        · rw [← hu']; exact blk_set hu k x
        · rcases h1 with ⟨hk5, e⟩ | ⟨hk5, e⟩
          · have := h5 hk5
            rw [e] at this
            simpa using this
          · rw [e]
            rcases Nat.lt_or_ge i 2 with hl | hl
            · exact absurd (h51 (by omega)) hk5
            · exact hu5 hl
        · rcases h2 with ⟨hk5, e⟩ | ⟨hk5, e⟩
          · have := h7 hk5
            rw [e] at this
            simpa using this
          · rw [e]
            rcases Nat.lt_or_ge i 4 with hl | hl
            · exact absurd (h73 (by omega)) hk5
            · exact hu7 hl
      have HCALL := Kp.mk hcall
      obtain ⟨F, hF⟩ : ∃ F, F = optF k := ⟨_, rfl⟩
      rw [← hF] at HCALL hent
      simp only [optV] at c0
      rw [← hF] at c0
      clear hmem hk hx hcell hlt h5 h7 h51 h73 hx1 hu hu5 hu7 hcc hcall hu' h1 h2 hF
      go_wp2_with fail
      refine HCALL.out.mono ?_
      rintro e w2 ⟨rfl, rfl⟩
      clear c0 hent HCALL
      have hwi : wrap64 ((i : Int) + 1) = (i : Int) + 1 := by have h3 := HN.out.2.2; unfold wrap64; omega
      go_wp2_with fail
      go_roundw
      case rel => exact ⟨i + 1, by first | (simp [hwi]; done) | (simp; done) | (rw [hwi]; rfl), by omega, HNX⟩
      case measure => simp; omega
    · have hin' : i = n := by omega
      obtain ⟨hx1, u, hu, hu5, hu7⟩ := HJ.out
      have hsi := hu5 (by have := HN.out; omega)
      have hwh := hu7 (by have := HN.out; omega)
      have h0 := hx1.keep HP1.out.1 (by show ¬ w.heap.size = w.heap.size + 1; omega)
      have hbel := HB1.out.trans ((hx1.toBelow (B := w.heap.size) (fun j hj e => by omega) HB1.out.size))
      have HX := Kp.mk hbel
      rw [HWW.out.2.2] at h0
      obtain ⟨a0, a1, a2, a3, a4, a5, a6, a7, a8, a9, a10, a11, a12⟩ := u
      simp only [Opt13.cells] at hu hsi hwh
      subst hsi
      subst hwh
      have HH := Kp.mk (And.intro hu h0)
      clear HJ hx1 hu hu5 hu7 h0 hbel HC HI HG HV HB1 HP1 HS HN HWW
      have hpq : w.heap.size ≠ w.heap.size + 1 := by omega
      by_cases h2 : a2 = 0
      · subst h2
        by_cases h4 : a4 = 0
        · subst h4
          have c2 := blk_cell HH.out.1 2
          have f2 := blk_frozen HH.out.1 2
          have c4 := blk_cell (blk_set HH.out.1 2 (.int .u64 1025)) 4
          have f4 := blk_frozen (blk_set HH.out.1 2 (.int .u64 1025)) 4
          have HQ := Kp.mk (blk_far (p := ⟨w.heap.size + 1, 4, none⟩) (blk_far (p := ⟨w.heap.size + 1, 2, none⟩) HH.out.2 hpq (.int .u64 1025)) hpq (.int .u64 2048))
          have HBE := Kp.mk (bel_set (bel_set HX.out (p := ⟨w.heap.size + 1, 2, none⟩) (Nat.le_succ _) (.int .u64 1025)) (p := ⟨w.heap.size + 1, 4, none⟩) (Nat.le_succ _) (.int .u64 2048))
          have hrg : World.rangeAt ((wr.setCell ⟨w.heap.size + 1, 2, none⟩ (.int .u64 1025)).setCell ⟨w.heap.size + 1, 4, none⟩ (.int .u64 2048)) (w.heap.size + 1) 0 [.int .u64 a0, .int .u64 a1, .int .u64 1025, .bool a3, .int .u64 2048, .bool a5, .bool a6, .bool a7, .int .u64 a8, .bool a9, .bool a10, .int .u64 a11, .int .u64 a12] := range_blk (blk_set (blk_set HH.out.1 2 (.int .u64 1025)) 4 (.int .u64 2048))
          have hth : World.there ((wr.setCell ⟨w.heap.size + 1, 2, none⟩ (.int .u64 1025)).setCell ⟨w.heap.size + 1, 4, none⟩ (.int .u64 2048)) w.heap.size 0 13 := there_blk HQ.out 13 (by decide)
          have HRG := Kp.mk hrg
          have HTH := Kp.mk hth
          clear hrg hth
          have HFIN : Kp ((((wr.setCell ⟨w.heap.size + 1, 2, none⟩ (.int .u64 1025)).setCell ⟨w.heap.size + 1, 4, none⟩ (.int .u64 2048)).setCells w.heap.size 0 [.int .u64 a0, .int .u64 a1, .int .u64 1025, .bool a3, .int .u64 2048, .bool a5, .bool a6, .bool a7, .int .u64 a8, .bool a9, .bool a10, .int .u64 a11, .int .u64 a12]).heap[w.heap.size]? = some (.cells #[.int .u64 a0, .int .u64 a1, .int .u64 1025, .bool a3, .int .u64 2048, .bool a5, .bool a6, .bool a7, .int .u64 a8, .bool a9, .bool a10, .int .u64 a11, .int .u64 a12] 50 (0, 0))) := ⟨blk_setAll [.int .u64 a0, .int .u64 a1, .int .u64 1025, .bool a3, .int .u64 2048, .bool a5, .bool a6, .bool a7, .int .u64 a8, .bool a9, .bool a10, .int .u64 a11, .int .u64 a12] [] [.int .u64 0, .int .u64 0, .int .u64 0, .bool false, .int .u64 0, .bool false, .bool false, .bool false, .int .u64 0, .bool false, .bool false, .int .u64 0, .int .u64 0] _ HQ.out rfl⟩
          clear HH HX
          go_wp2_with (first | (refine wpList_load_mid rfl 50 _ rfl _ _ rfl [.int .u64 a0, .int .u64 a1, .int .u64 1025, .bool a3, .int .u64 2048, .bool a5, .bool a6, .bool a7, .int .u64 a8, .bool a9, .bool a10, .int .u64 a11, .int .u64 a12] _ HRG.out Tryz.underlying50 rfl (by kernel_rfl) ?_) | (refine wpList_store_mid rfl 50 _ _ rfl _ _ #[.int .u64 a0, .int .u64 a1, .int .u64 1025, .bool a3, .int .u64 2048, .bool a5, .bool a6, .bool a7, .int .u64 a8, .bool a9, .bool a10, .int .u64 a11, .int .u64 a12] rfl rfl HTH.out (by kernel_rfl) (by simp [Value.oneCell']) ?_))
          refine bodyPost_ret (res_cell1 rfl _ _ w.heap.size 50 #[.int .u64 a0, .int .u64 a1, .int .u64 1025, .bool a3, .int .u64 2048, .bool a5, .bool a6, .bool a7, .int .u64 a8, .bool a9, .bool a10, .int .u64 a11, .int .u64 a12] _ rfl HFIN.out Tryz.underlying50 rfl (by kernel_rfl)) rfl ?_
          exact ⟨⟨⟨a0, a1, 1025, a3, 2048, a5, a6, a7, a8, a9, a10, a11, a12⟩, rfl, rfl, rfl⟩, bel_setAll (Nat.le_refl _) _ _ HBE.out⟩
        · have h4' : (a4 : Int) ≠ 0 := by omega
          have c2 := blk_cell HH.out.1 2
          have f2 := blk_frozen HH.out.1 2
          have c4 := blk_cell (blk_set HH.out.1 2 (.int .u64 1025)) 4
          have f4 := blk_frozen (blk_set HH.out.1 2 (.int .u64 1025)) 4
          have HQ := Kp.mk (blk_far (p := ⟨w.heap.size + 1, 2, none⟩) HH.out.2 hpq (.int .u64 1025))
          have HBE := Kp.mk (bel_set HX.out (p := ⟨w.heap.size + 1, 2, none⟩) (Nat.le_succ _) (.int .u64 1025))
          have hrg : World.rangeAt (wr.setCell ⟨w.heap.size + 1, 2, none⟩ (.int .u64 1025)) (w.heap.size + 1) 0 [.int .u64 a0, .int .u64 a1, .int .u64 1025, .bool a3, .int .u64 a4, .bool a5, .bool a6, .bool a7, .int .u64 a8, .bool a9, .bool a10, .int .u64 a11, .int .u64 a12] := range_blk (blk_set HH.out.1 2 (.int .u64 1025))
          have hth : World.there (wr.setCell ⟨w.heap.size + 1, 2, none⟩ (.int .u64 1025)) w.heap.size 0 13 := there_blk HQ.out 13 (by decide)
          have HRG := Kp.mk hrg
          have HTH := Kp.mk hth
          clear hrg hth
          have HFIN : Kp (((wr.setCell ⟨w.heap.size + 1, 2, none⟩ (.int .u64 1025)).setCells w.heap.size 0 [.int .u64 a0, .int .u64 a1, .int .u64 1025, .bool a3, .int .u64 a4, .bool a5, .bool a6, .bool a7, .int .u64 a8, .bool a9, .bool a10, .int .u64 a11, .int .u64 a12]).heap[w.heap.size]? = some (.cells #[.int .u64 a0, .int .u64 a1, .int .u64 1025, .bool a3, .int .u64 a4, .bool a5, .bool a6, .bool a7, .int .u64 a8, .bool a9, .bool a10, .int .u64 a11, .int .u64 a12] 50 (0, 0))) := ⟨blk_setAll [.int .u64 a0, .int .u64 a1, .int .u64 1025, .bool a3, .int .u64 a4, .bool a5, .bool a6, .bool a7, .int .u64 a8, .bool a9, .bool a10, .int .u64 a11, .int .u64 a12] [] [.int .u64 0, .int .u64 0, .int .u64 0, .bool false, .int .u64 0, .bool false, .bool false, .bool false, .int .u64 0, .bool false, .bool false, .int .u64 0, .int .u64 0] _ HQ.out rfl⟩
          clear HH HX
          go_wp2_with (first | (refine wpList_load_mid rfl 50 _ rfl _ _ rfl [.int .u64 a0, .int .u64 a1, .int .u64 1025, .bool a3, .int .u64 a4, .bool a5, .bool a6, .bool a7, .int .u64 a8, .bool a9, .bool a10, .int .u64 a11, .int .u64 a12] _ HRG.out Tryz.underlying50 rfl (by kernel_rfl) ?_) | (refine wpList_store_mid rfl 50 _ _ rfl _ _ #[.int .u64 a0, .int .u64 a1, .int .u64 1025, .bool a3, .int .u64 a4, .bool a5, .bool a6, .bool a7, .int .u64 a8, .bool a9, .bool a10, .int .u64 a11, .int .u64 a12] rfl rfl HTH.out (by kernel_rfl) (by simp [Value.oneCell']) ?_))
          refine bodyPost_ret (res_cell1 rfl _ _ w.heap.size 50 #[.int .u64 a0, .int .u64 a1, .int .u64 1025, .bool a3, .int .u64 a4, .bool a5, .bool a6, .bool a7, .int .u64 a8, .bool a9, .bool a10, .int .u64 a11, .int .u64 a12] _ rfl HFIN.out Tryz.underlying50 rfl (by kernel_rfl)) rfl ?_
          exact ⟨⟨⟨a0, a1, 1025, a3, a4, a5, a6, a7, a8, a9, a10, a11, a12⟩, rfl, rfl, rfl⟩, bel_setAll (Nat.le_refl _) _ _ HBE.out⟩
      · have h2' : (a2 : Int) ≠ 0 := by omega
        by_cases h4 : a4 = 0
        · subst h4
          have c2 := blk_cell HH.out.1 2
          have f2 := blk_frozen HH.out.1 2
          have c4 := blk_cell HH.out.1 4
          have f4 := blk_frozen HH.out.1 4
          have HQ := Kp.mk (blk_far (p := ⟨w.heap.size + 1, 4, none⟩) HH.out.2 hpq (.int .u64 2048))
          have HBE := Kp.mk (bel_set HX.out (p := ⟨w.heap.size + 1, 4, none⟩) (Nat.le_succ _) (.int .u64 2048))
          have hrg : World.rangeAt (wr.setCell ⟨w.heap.size + 1, 4, none⟩ (.int .u64 2048)) (w.heap.size + 1) 0 [.int .u64 a0, .int .u64 a1, .int .u64 a2, .bool a3, .int .u64 2048, .bool a5, .bool a6, .bool a7, .int .u64 a8, .bool a9, .bool a10, .int .u64 a11, .int .u64 a12] := range_blk (blk_set HH.out.1 4 (.int .u64 2048))
          have hth : World.there (wr.setCell ⟨w.heap.size + 1, 4, none⟩ (.int .u64 2048)) w.heap.size 0 13 := there_blk HQ.out 13 (by decide)
          have HRG := Kp.mk hrg
          have HTH := Kp.mk hth
          clear hrg hth
          have HFIN : Kp (((wr.setCell ⟨w.heap.size + 1, 4, none⟩ (.int .u64 2048)).setCells w.heap.size 0 [.int .u64 a0, .int .u64 a1, .int .u64 a2, .bool a3, .int .u64 2048, .bool a5, .bool a6, .bool a7, .int .u64 a8, .bool a9, .bool a10, .int .u64 a11, .int .u64 a12]).heap[w.heap.size]? = some (.cells #[.int .u64 a0, .int .u64 a1, .int .u64 a2, .bool a3, .int .u64 2048, .bool a5, .bool a6, .bool a7, .int .u64 a8, .bool a9, .bool a10, .int .u64 a11, .int .u64 a12] 50 (0, 0))) := ⟨blk_setAll [.int .u64 a0, .int .u64 a1, .int .u64 a2, .bool a3, .int .u64 2048, .bool a5, .bool a6, .bool a7, .int .u64 a8, .bool a9, .bool a10, .int .u64 a11, .int .u64 a12] [] [.int .u64 0, .int .u64 0, .int .u64 0, .bool false, .int .u64 0, .bool false, .bool false, .bool false, .int .u64 0, .bool false, .bool false, .int .u64 0, .int .u64 0] _ HQ.out rfl⟩
          clear HH HX
          go_wp2_with (first | (refine wpList_load_mid rfl 50 _ rfl _ _ rfl [.int .u64 a0, .int .u64 a1, .int .u64 a2, .bool a3, .int .u64 2048, .bool a5, .bool a6, .bool a7, .int .u64 a8, .bool a9, .bool a10, .int .u64 a11, .int .u64 a12] _ HRG.out Tryz.underlying50 rfl (by kernel_rfl) ?_) | (refine wpList_store_mid rfl 50 _ _ rfl _ _ #[.int .u64 a0, .int .u64 a1, .int .u64 a2, .bool a3, .int .u64 2048, .bool a5, .bool a6, .bool a7, .int .u64 a8, .bool a9, .bool a10, .int .u64 a11, .int .u64 a12] rfl rfl HTH.out (by kernel_rfl) (by simp [Value.oneCell']) ?_))
          refine bodyPost_ret (res_cell1 rfl _ _ w.heap.size 50 #[.int .u64 a0, .int .u64 a1, .int .u64 a2, .bool a3, .int .u64 2048, .bool a5, .bool a6, .bool a7, .int .u64 a8, .bool a9, .bool a10, .int .u64 a11, .int .u64 a12] _ rfl HFIN.out Tryz.underlying50 rfl (by kernel_rfl)) rfl ?_
          exact ⟨⟨⟨a0, a1, a2, a3, 2048, a5, a6, a7, a8, a9, a10, a11, a12⟩, rfl, rfl, rfl⟩, bel_setAll (Nat.le_refl _) _ _ HBE.out⟩
        · have h4' : (a4 : Int) ≠ 0 := by omega
          have c2 := blk_cell HH.out.1 2
          have f2 := blk_frozen HH.out.1 2
          have c4 := blk_cell HH.out.1 4
          have f4 := blk_frozen HH.out.1 4
          have HQ := Kp.mk HH.out.2
          have HBE := Kp.mk HX.out
          have hrg : World.rangeAt wr (w.heap.size + 1) 0 [.int .u64 a0, .int .u64 a1, .int .u64 a2, .bool a3, .int .u64 a4, .bool a5, .bool a6, .bool a7, .int .u64 a8, .bool a9, .bool a10, .int .u64 a11, .int .u64 a12] := range_blk HH.out.1
          have hth : World.there wr w.heap.size 0 13 := there_blk HQ.out 13 (by decide)
          have HRG := Kp.mk hrg
          have HTH := Kp.mk hth
          clear hrg hth
          have HFIN : Kp ((wr.setCells w.heap.size 0 [.int .u64 a0, .int .u64 a1, .int .u64 a2, .bool a3, .int .u64 a4, .bool a5, .bool a6, .bool a7, .int .u64 a8, .bool a9, .bool a10, .int .u64 a11, .int .u64 a12]).heap[w.heap.size]? = some (.cells #[.int .u64 a0, .int .u64 a1, .int .u64 a2, .bool a3, .int .u64 a4, .bool a5, .bool a6, .bool a7, .int .u64 a8, .bool a9, .bool a10, .int .u64 a11, .int .u64 a12] 50 (0, 0))) := ⟨blk_setAll [.int .u64 a0, .int .u64 a1, .int .u64 a2, .bool a3, .int .u64 a4, .bool a5, .bool a6, .bool a7, .int .u64 a8, .bool a9, .bool a10, .int .u64 a11, .int .u64 a12] [] [.int .u64 0, .int .u64 0, .int .u64 0, .bool false, .int .u64 0, .bool false, .bool false, .bool false, .int .u64 0, .bool false, .bool false, .int .u64 0, .int .u64 0] _ HQ.out rfl⟩
          clear HH HX
          go_wp2_with (first | (refine wpList_load_mid rfl 50 _ rfl _ _ rfl [.int .u64 a0, .int .u64 a1, .int .u64 a2, .bool a3, .int .u64 a4, .bool a5, .bool a6, .bool a7, .int .u64 a8, .bool a9, .bool a10, .int .u64 a11, .int .u64 a12] _ HRG.out Tryz.underlying50 rfl (by kernel_rfl) ?_) | (refine wpList_store_mid rfl 50 _ _ rfl _ _ #[.int .u64 a0, .int .u64 a1, .int .u64 a2, .bool a3, .int .u64 a4, .bool a5, .bool a6, .bool a7, .int .u64 a8, .bool a9, .bool a10, .int .u64 a11, .int .u64 a12] rfl rfl HTH.out (by kernel_rfl) (by simp [Value.oneCell']) ?_))
          refine bodyPost_ret (res_cell1 rfl _ _ w.heap.size 50 #[.int .u64 a0, .int .u64 a1, .int .u64 a2, .bool a3, .int .u64 a4, .bool a5, .bool a6, .bool a7, .int .u64 a8, .bool a9, .bool a10, .int .u64 a11, .int .u64 a12] _ rfl HFIN.out Tryz.underlying50 rfl (by kernel_rfl)) rfl ?_
          exact ⟨⟨⟨a0, a1, a2, a3, a4, a5, a6, a7, a8, a9, a10, a11, a12⟩, rfl, rfl, rfl⟩, bel_setAll (Nat.le_refl _) _ _ HBE.out⟩

end Go.Proofs.YtgjocdnpephcgaaGreatDoor
namespace Go.Proofs.YtgjocdnpephcgaaGreatDoor
open Go.RowKit

/-- impl.Options. -/
structure OptI where
  z : Bool
  id : Bool
  dup : Bool
  wh : Bool
  v1 : Bool
  tr : Bool
  dp : Nat
  ip : Nat
  codec : Nat
  mc : Nat
  mh : Nat
  ms : Nat
def OptI.cells (o : OptI) : Array Value := #[.bool o.z, .bool o.id, .bool o.dup, .bool o.wh, .bool o.v1, .bool o.tr, .int .u64 o.dp, .int .u64 o.ip, .int .u64 o.codec, .int .u64 o.mc, .int .u64 o.mh, .int .u64 o.ms]
/-- A row of options, of the call's own. -/
def OwnO (base : Nat) (w : World) (A : Option Addr) (cap : Nat) (E : List (Nat × Nat × Value)) : Prop := w.ownsRow base 69 1 (.slice A E.length cap) E.length (E.map fun y => optV y.1 y.2.1) ∧ OptsIn w E
theorem OwnO.below {base : Nat} {w w1 : World} {A : Option Addr} {cap : Nat} {E : List (Nat × Nat × Value)} (h : OwnO base w A cap E) (hb : Below w.heap.size w w1) : OwnO base w1 A cap E := by
  obtain ⟨⟨h1, h2⟩, hi⟩ := h
  refine ⟨⟨h1, h2.imp id ?_⟩, hi.below hb⟩
  rintro ⟨g, cap, cur, e, h3, h4, h5⟩
  exact ⟨g, cap, cur, e, h3, blk_keep h4 hb, h5⟩
theorem OwnO.rd {base : Nat} {w : World} {A : Option Addr} {cap n : Nat} {E : List (Nat × Nat × Value)} (h : OwnO base w A cap E) (hn : n = E.length) (h1 : 1 ≤ n) : RdO w A n E := by
  subst hn
  rcases h.1.2 with ⟨_, h0⟩ | ⟨g, cap', cur, he, _, hb, hle, hm, hs, ht⟩
  · omega
  · simp only [Value.slice.injEq] at he
    obtain ⟨rfl, _, rfl⟩ := he
    refine ⟨rfl, ⟨g, 0, rfl, fun i hi => ?_⟩, h.2⟩
    rw [blk_cell hb, Nat.zero_add]
    have h2 : (E.map fun y => optV y.1 y.2.1)[i]? = some (optV E[i].1 E[i].2.1) := by rw [List.getElem?_map, List.getElem?_eq_getElem hi]; rfl
    rw [← ht, List.getElem?_take, if_pos (by omega)] at h2
    simpa using h2
theorem info_opt : (Tryz.prog.info? 69).map (fun i => (i.zero, i.size, i.bytes)) = some (some .nilFunc, 1, 8) := by kernel_rfl

/-- An append of one option. -/
theorem append_opt (base k : Nat) (A : Option Addr) (cap : Nat) (E : List (Nat × Nat × Value)) (hk : k = E.length) (h1 : 1 ≤ k) (w : World) (h : OwnO base w A cap E) (hb : base ≤ w.heap.size) (hl : k ≤ 1000) (gx kk c : Nat) (x : Value) (tc : TypeId) (hx : w.cell? ⟨gx, 0, none⟩ = some (optV kk c)) (hkk : kk ∈ optKs) (hok : okO kk x) (hc : w.heap[c]? = some (.cells #[x] tc (0, 0))) :
    ∃ A' cap' w', (Builtin.append_ #[52, 52] 52 #[.slice A k cap, .slice (some ⟨gx, 0, none⟩) 1 1]).run Tryz.prog w = .ok (.slice A' (k + 1) cap') w'
      ∧ OwnO base w' A' cap' (E ++ [(kk, c, x)]) ∧ Ex (fun j => base ≤ j) w w' := by
  obtain ⟨i, hi, hz, hs, hby⟩ := info_parts info_opt
  have hown : w.ownsRow base 69 1 (.slice A k cap) k (E.map fun y => optV y.1 y.2.1) := by rw [hk]; exact h.1
  obtain ⟨v', w', hr, ho, hg, _⟩ := run_append_own (P := Tryz.prog) w base 52 52 69 i _ 1 8 Tryz.underlying52 hi hz hs hby rfl (by omega) _ k _ hown ⟨gx, 0, none⟩ 1 1 [optV kk c] rfl
    (fun j u hj => by
      match j, hj with
      | 0, hj => simp at hj; subst hj; rw [add_plain]; exact hx) (fun u hu => by simp at hu; subst hu; rfl) (by unfold maxLen; omega) (by omega) hb
  have hv : ∃ A' cap', v' = .slice A' (k + 1) cap' := by
    rcases ho.2 with ⟨_, h0⟩ | ⟨g, cap, cur, rfl, _⟩
    · omega
    · exact ⟨_, _, rfl⟩
  obtain ⟨A', cap', rfl⟩ := hv
  have hnew : OptsIn w (E ++ [(kk, c, x)]) := fun y hy => by
    rcases List.mem_append.1 hy with hy | hy
    · exact h.2 y hy
    · obtain rfl := List.mem_singleton.1 hy
      exact ⟨hkk, hok, tc, hc⟩
  refine ⟨A', cap', w', hr, ⟨by rw [List.length_append, ← hk, List.map_append]; exact ho, fun y hy => ?_⟩, hg.os, hg.tape, hg.output, hg.size, fun j hj hp => hg.block j hj fun e => ?_⟩
  · obtain ⟨q1, q2, t, q3⟩ := hnew y hy
    refine ⟨q1, q2, t, ?_⟩
    rw [hg.block y.2.1 (Array.getElem?_eq_some_iff.1 q3).1 (fun e => ?_)]
    · exact q3
    · rcases h.1.2 with ⟨h0, _⟩ | ⟨g, cap2, cur, h0, _, hbk, hle, hm, hsz, ht⟩
      · simp only [Value.slice.injEq] at h0
        rw [h0.1] at e; cases e
      · simp only [Value.slice.injEq] at h0
        rw [h0.1] at e
        simp [Value.ownBlock] at e
        rw [e] at q3
        rw [q3] at hbk
        have hcur : cur = #[y.2.2] := (show cur = #[y.2.2] ∧ 69 = t by simpa using hbk.symm).1
        rw [hcur] at ht
        have h0 := congrArg (fun l => l[0]?) ht
        have hp0 : 0 < E.length := by omega
        have hx1 : y.2.2 = optV E[0].1 E[0].2.1 := by simpa [hp0] using h0
        unfold okO at q2
        rw [hx1] at q2
        split at q2
        · obtain ⟨b, e⟩ := q2; cases e
        · obtain ⟨z, e⟩ := q2; cases e
  · rcases h.1.2 with ⟨h0, _⟩ | ⟨g, cap2, cur, h0, hg0, _⟩
    · simp only [Value.slice.injEq] at h0
      rw [h0.1] at e; cases e
    · simp only [Value.slice.injEq] at h0
      rw [h0.1] at e
      simp [Value.ownBlock] at e
      exact hp (by omega)

theorem okO_b {k : Nat} (h : k = 3 ∨ k = 5 ∨ k = 6 ∨ k = 7 ∨ k = 9 ∨ k = 10) (b : Bool) : okO k (.bool b) := by
  unfold okO; rw [if_pos h]; exact ⟨b, rfl⟩
theorem okO_u {k : Nat} (h : ¬ (k = 3 ∨ k = 5 ∨ k = 6 ∨ k = 7 ∨ k = 9 ∨ k = 10)) (z : Nat) : okO k (.int .u64 z) := by
  unfold okO; rw [if_neg h]; exact ⟨z, rfl⟩
/-- The two that count stand where they stand. -/
def GoodO (id wh : Bool) (E : List (Nat × Nat × Value)) : Prop := (∀ y ∈ E, y.1 = 5 → y.2.2 = .bool id) ∧ (∀ y ∈ E, y.1 = 7 → y.2.2 = .bool wh) ∧ (∃ a, E[1]? = some (5, a)) ∧ ∃ a, E[3]? = some (7, a)
theorem GoodO.snoc {id wh : Bool} {E : List (Nat × Nat × Value)} (h : GoodO id wh E) {k c : Nat} {x : Value} (h5 : k ≠ 5) (h7 : k ≠ 7) : GoodO id wh (E ++ [(k, c, x)]) := by
  obtain ⟨a, b, ⟨u, hu⟩, v, hv⟩ := h
  refine ⟨fun y hy e => ?_, fun y hy e => ?_, ⟨u, ?_⟩, v, ?_⟩
  · rcases List.mem_append.1 hy with hy | hy
    · exact a y hy e
    · obtain rfl := List.mem_singleton.1 hy
      exact absurd e h5
  · rcases List.mem_append.1 hy with hy | hy
    · exact b y hy e
    · obtain rfl := List.mem_singleton.1 hy
      exact absurd e h7
  · rw [List.getElem?_append_left (List.getElem?_eq_some_iff.1 hu).1]; exact hu
  · rw [List.getElem?_append_left (List.getElem?_eq_some_iff.1 hv).1]; exact hv
/-- What impl.options leaves. -/
def OptsEnd (o : OptI) (e : Ending) (w' : World) : Prop := ∃ A n c E, e = .returned (.slice A n c) ∧ RdO w' A n E ∧ 8 ≤ n ∧ n ≤ 100 ∧ GoodO o.id o.wh E
theorem optsEnd_of {o : OptI} {base n c : Nat} {w' : World} {A : Option Addr} {E : List (Nat × Nat × Value)} (h : OwnO base w' A c E) (hg : GoodO o.id o.wh E) (hn : n = E.length) (h1 : 8 ≤ n) (h2 : n ≤ 100) : OptsEnd o (.returned (.slice A n c)) w' := ⟨A, n, c, E, rfl, h.rd hn (by omega), h1, h2, hg⟩

/-- A made option. -/
def cloO (k : Nat) (x u : Value) (w : World) : Prop := ∃ c t, u = optV k c ∧ w.heap[c]? = some (.cells #[x] t (0, 0))
/-- What the operations of its first line leave. -/
def omR (b : Nat) (o : OptI) (j : Nat) (u : Value) (w : World) : Prop :=
  match j with
  | 0 => u = .pointer (some ⟨b, 0, none⟩)
  | 1 => u = (.bool o.z)
  | 2 => cloO 3 (.bool o.z) u w
  | 3 => u = .pointer (some ⟨b, 1, none⟩)
  | 4 => u = (.bool o.id)
  | 5 => cloO 5 (.bool o.id) u w
  | 6 => u = .pointer (some ⟨b, 2, none⟩)
  | 7 => u = (.bool o.dup)
  | 8 => cloO 6 (.bool o.dup) u w
  | 9 => u = .pointer (some ⟨b, 3, none⟩)
  | 10 => u = (.bool o.wh)
  | 11 => cloO 7 (.bool o.wh) u w
  | 12 => u = .pointer (some ⟨b, 4, none⟩)
  | 13 => u = (.bool o.v1)
  | 14 => cloO 9 (.bool o.v1) u w
  | 15 => u = .pointer (some ⟨b, 5, none⟩)
  | 16 => u = (.bool o.tr)
  | 17 => cloO 10 (.bool o.tr) u w
  | 18 => u = .pointer (some ⟨b, 6, none⟩)
  | 19 => u = (.int .u64 o.dp)
  | 20 => cloO 0 (.int .u64 o.dp) u w
  | 21 => u = .pointer (some ⟨b, 7, none⟩)
  | 22 => u = (.int .u64 o.ip)
  | 23 => cloO 1 (.int .u64 o.ip) u w
  | _ => ∃ g c0 c1 c2 c3 c4 c5 c6 c7, b < g ∧ u = .slice (some ⟨g, 0, none⟩) 8 8 ∧ w.heap[g]? = some (.cells #[optV 3 c0, optV 5 c1, optV 6 c2, optV 7 c3, optV 9 c4, optV 10 c5, optV 0 c6, optV 1 c7] 69 (0, 0)) ∧ OptsIn w [(3, c0, (.bool o.z)), (5, c1, (.bool o.id)), (6, c2, (.bool o.dup)), (7, c3, (.bool o.wh)), (9, c4, (.bool o.v1)), (10, c5, (.bool o.tr)), (0, c6, (.int .u64 o.dp)), (1, c7, (.int .u64 o.ip))]
theorem omR_keep {b : Nat} {o : OptI} (i : Nat) (u : Value) (a c : World) (h : omR b o i u a) (hb : Below a.heap.size a c) : omR b o i u c := by
  rcases i with _ | _ | _ | _ | _ | _ | _ | _ | _ | _ | _ | _ | _ | _ | _ | _ | _ | _ | _ | _ | _ | _ | _ | _ | i
  · exact h
  · exact h
  · obtain ⟨c, t, e, h1⟩ := h; exact ⟨c, t, e, blk_keep h1 hb⟩
  · exact h
  · exact h
  · obtain ⟨c, t, e, h1⟩ := h; exact ⟨c, t, e, blk_keep h1 hb⟩
  · exact h
  · exact h
  · obtain ⟨c, t, e, h1⟩ := h; exact ⟨c, t, e, blk_keep h1 hb⟩
  · exact h
  · exact h
  · obtain ⟨c, t, e, h1⟩ := h; exact ⟨c, t, e, blk_keep h1 hb⟩
  · exact h
  · exact h
  · obtain ⟨c, t, e, h1⟩ := h; exact ⟨c, t, e, blk_keep h1 hb⟩
  · exact h
  · exact h
  · obtain ⟨c, t, e, h1⟩ := h; exact ⟨c, t, e, blk_keep h1 hb⟩
  · exact h
  · exact h
  · obtain ⟨c, t, e, h1⟩ := h; exact ⟨c, t, e, blk_keep h1 hb⟩
  · exact h
  · exact h
  · obtain ⟨c, t, e, h1⟩ := h; exact ⟨c, t, e, blk_keep h1 hb⟩
  · obtain ⟨g, c0, c1, c2, c3, c4, c5, c6, c7, hg, e, h1, h2⟩ := h
    exact ⟨g, c0, c1, c2, c3, c4, c5, c6, c7, hg, e, blk_keep h1 hb, h2.below hb⟩

set_option maxHeartbeats 16000000 in
set_option maxRecDepth 100000 in
/-- impl.options. -/
theorem options_calls (o : OptI) (w : World) :
    Calls Tryz.prog 18 #[.agg o.cells] w fun e w' => OptsEnd o e w' ∧ Below w.heap.size w w' := by
  show Calls Tryz.prog 18 #[.agg #[.bool o.z, .bool o.id, .bool o.dup, .bool o.wh, .bool o.v1, .bool o.tr, .int .u64 o.dp, .int .u64 o.ip, .int .u64 o.codec, .int .u64 o.mc, .int .u64 o.mh, .int .u64 o.ms]] w _
  have HB0 := Kp.mk (fun o => bel_alloc (Below.refl w.heap.size w) o)
  have HN0 := Kp.mk (fun o => blk_new (w := w) (o := o) (Below.refl _ _))
  go_enter Tryz.func18, Tryz.ntmps18
  go_wp2_with fail
  have HB1 := Kp.mk (HB0.out (.cells #[.bool o.z, .bool o.id, .bool o.dup, .bool o.wh, .bool o.v1, .bool o.tr, .int .u64 o.dp, .int .u64 o.ip, .int .u64 o.codec, .int .u64 o.mc, .int .u64 o.mh, .int .u64 o.ms] 27))
  have HN1 := Kp.mk (HN0.out (.cells #[.bool o.z, .bool o.id, .bool o.dup, .bool o.wh, .bool o.v1, .bool o.tr, .int .u64 o.dp, .int .u64 o.ip, .int .u64 o.codec, .int .u64 o.mc, .int .u64 o.mh, .int .u64 o.ms] 27))
  clear HB0 HN0
  obtain ⟨b, hb⟩ : ∃ b, b = w.heap.size := ⟨_, rfl⟩
  have hsz : w.heap.size ≤ b := by omega
  rw [← hb] at HN1 ⊢
  generalize w.alloc (.cells #[.bool o.z, .bool o.id, .bool o.dup, .bool o.wh, .bool o.v1, .bool o.tr, .int .u64 o.dp, .int .u64 o.ip, .int .u64 o.codec, .int .u64 o.mc, .int .u64 o.mh, .int .u64 o.ms] 27) = w1 at *
  have HSZ := Kp.mk hb
  clear hb hsz
  refine wp_region_growR (fun u u' => Below u.heap.size u u') (fun _ => Below.refl _ _) (fun _ _ _ h k => bel_then h k) (by kernel_rfl) 26 (by decide) (apart_of (by kernel_rfl)) (by kernel_rfl) (omR b o) (fun _ _ _ _ => True) omR_keep ?_ ?_
  · intro j hj ob ho vs w5 hb5 hpre
    have HN5 := Kp.mk (blk_keep HN1.out (bel_then (bel_drew (Below.refl w1.heap.size w1)) hb5))
    have HB5 := Kp.mk (fun o => bel_alloc (Below.refl w5.heap.size w5) o)
    have HA5 := Kp.mk (fun o => blk_new (w := w5) (o := o) (Below.refl _ _))
    have HLT : Kp (b < w5.heap.size) := ⟨(Array.getElem?_eq_some_iff.1 HN5.out).1⟩
    clear hb5
    rcases j with _ | _ | _ | _ | _ | _ | _ | _ | _ | _ | _ | _ | _ | _ | _ | _ | _ | _ | _ | _ | _ | _ | _ | _ | _ | _ | j
    · obtain rfl := Option.some.inj ho
      simp only [canon, List.range, List.range.loop, List.foldl]
      go_simp
      exact ⟨rfl, Below.refl _ _⟩
    · have e0 : vs 0 = _ := hpre 0 (by decide) (by obtain rfl := Option.some.inj ho; rfl)
      have c0 := blk_cell HN5.out 0
      obtain rfl := Option.some.inj ho
      simp only [canon, List.range, List.range.loop, List.foldl]
      go_simp
      exact ⟨rfl, Below.refl _ _⟩
    · have e1 : vs 1 = _ := hpre 1 (by decide) (by obtain rfl := Option.some.inj ho; rfl)
      obtain rfl := Option.some.inj ho
      simp only [canon, List.range, List.range.loop, List.foldl]
      go_simp
      refine (optMk3_calls o.z w5).mono ?_
      rintro e6 w6 ⟨c, t, rfl, hc, hb⟩
      exact ⟨⟨c, t, rfl, hc⟩, hb⟩
    · obtain rfl := Option.some.inj ho
      simp only [canon, List.range, List.range.loop, List.foldl]
      go_simp
      exact ⟨rfl, Below.refl _ _⟩
    · have e0 : vs 3 = _ := hpre 3 (by decide) (by obtain rfl := Option.some.inj ho; rfl)
      have c0 := blk_cell HN5.out 1
      obtain rfl := Option.some.inj ho
      simp only [canon, List.range, List.range.loop, List.foldl]
      go_simp
      exact ⟨rfl, Below.refl _ _⟩
    · have e1 : vs 4 = _ := hpre 4 (by decide) (by obtain rfl := Option.some.inj ho; rfl)
      obtain rfl := Option.some.inj ho
      simp only [canon, List.range, List.range.loop, List.foldl]
      go_simp
      refine (optMk5_calls o.id w5).mono ?_
      rintro e6 w6 ⟨c, t, rfl, hc, hb⟩
      exact ⟨⟨c, t, rfl, hc⟩, hb⟩
    · obtain rfl := Option.some.inj ho
      simp only [canon, List.range, List.range.loop, List.foldl]
      go_simp
      exact ⟨rfl, Below.refl _ _⟩
    · have e0 : vs 6 = _ := hpre 6 (by decide) (by obtain rfl := Option.some.inj ho; rfl)
      have c0 := blk_cell HN5.out 2
      obtain rfl := Option.some.inj ho
      simp only [canon, List.range, List.range.loop, List.foldl]
      go_simp
      exact ⟨rfl, Below.refl _ _⟩
    · have e1 : vs 7 = _ := hpre 7 (by decide) (by obtain rfl := Option.some.inj ho; rfl)
      obtain rfl := Option.some.inj ho
      simp only [canon, List.range, List.range.loop, List.foldl]
      go_simp
      refine (optMk6_calls o.dup w5).mono ?_
      rintro e6 w6 ⟨c, t, rfl, hc, hb⟩
      exact ⟨⟨c, t, rfl, hc⟩, hb⟩
    · obtain rfl := Option.some.inj ho
      simp only [canon, List.range, List.range.loop, List.foldl]
      go_simp
      exact ⟨rfl, Below.refl _ _⟩
    · have e0 : vs 9 = _ := hpre 9 (by decide) (by obtain rfl := Option.some.inj ho; rfl)
      have c0 := blk_cell HN5.out 3
      obtain rfl := Option.some.inj ho
      simp only [canon, List.range, List.range.loop, List.foldl]
      go_simp
      exact ⟨rfl, Below.refl _ _⟩
    · have e1 : vs 10 = _ := hpre 10 (by decide) (by obtain rfl := Option.some.inj ho; rfl)
      obtain rfl := Option.some.inj ho
      simp only [canon, List.range, List.range.loop, List.foldl]
      go_simp
      refine (optMk7_calls o.wh w5).mono ?_
      rintro e6 w6 ⟨c, t, rfl, hc, hb⟩
      exact ⟨⟨c, t, rfl, hc⟩, hb⟩
    · obtain rfl := Option.some.inj ho
      simp only [canon, List.range, List.range.loop, List.foldl]
      go_simp
      exact ⟨rfl, Below.refl _ _⟩
    · have e0 : vs 12 = _ := hpre 12 (by decide) (by obtain rfl := Option.some.inj ho; rfl)
      have c0 := blk_cell HN5.out 4
      obtain rfl := Option.some.inj ho
      simp only [canon, List.range, List.range.loop, List.foldl]
      go_simp
      exact ⟨rfl, Below.refl _ _⟩
    · have e1 : vs 13 = _ := hpre 13 (by decide) (by obtain rfl := Option.some.inj ho; rfl)
      obtain rfl := Option.some.inj ho
      simp only [canon, List.range, List.range.loop, List.foldl]
      go_simp
      refine (optMk9_calls o.v1 w5).mono ?_
      rintro e6 w6 ⟨c, t, rfl, hc, hb⟩
      exact ⟨⟨c, t, rfl, hc⟩, hb⟩
    · obtain rfl := Option.some.inj ho
      simp only [canon, List.range, List.range.loop, List.foldl]
      go_simp
      exact ⟨rfl, Below.refl _ _⟩
    · have e0 : vs 15 = _ := hpre 15 (by decide) (by obtain rfl := Option.some.inj ho; rfl)
      have c0 := blk_cell HN5.out 5
      obtain rfl := Option.some.inj ho
      simp only [canon, List.range, List.range.loop, List.foldl]
      go_simp
      exact ⟨rfl, Below.refl _ _⟩
    · have e1 : vs 16 = _ := hpre 16 (by decide) (by obtain rfl := Option.some.inj ho; rfl)
      obtain rfl := Option.some.inj ho
      simp only [canon, List.range, List.range.loop, List.foldl]
      go_simp
      refine (optMk10_calls o.tr w5).mono ?_
      rintro e6 w6 ⟨c, t, rfl, hc, hb⟩
      exact ⟨⟨c, t, rfl, hc⟩, hb⟩
    · obtain rfl := Option.some.inj ho
      simp only [canon, List.range, List.range.loop, List.foldl]
      go_simp
      exact ⟨rfl, Below.refl _ _⟩
    · have e0 : vs 18 = _ := hpre 18 (by decide) (by obtain rfl := Option.some.inj ho; rfl)
      have c0 := blk_cell HN5.out 6
      obtain rfl := Option.some.inj ho
      simp only [canon, List.range, List.range.loop, List.foldl]
      go_simp
      exact ⟨rfl, Below.refl _ _⟩
    · have e1 : vs 19 = _ := hpre 19 (by decide) (by obtain rfl := Option.some.inj ho; rfl)
      obtain rfl := Option.some.inj ho
      simp only [canon, List.range, List.range.loop, List.foldl]
      go_simp
      refine (optMk0_calls o.dp w5).mono ?_
      rintro e6 w6 ⟨c, t, rfl, hc, hb⟩
      exact ⟨⟨c, t, rfl, hc⟩, hb⟩
    · obtain rfl := Option.some.inj ho
      simp only [canon, List.range, List.range.loop, List.foldl]
      go_simp
      exact ⟨rfl, Below.refl _ _⟩
    · have e0 : vs 21 = _ := hpre 21 (by decide) (by obtain rfl := Option.some.inj ho; rfl)
      have c0 := blk_cell HN5.out 7
      obtain rfl := Option.some.inj ho
      simp only [canon, List.range, List.range.loop, List.foldl]
      go_simp
      exact ⟨rfl, Below.refl _ _⟩
    · have e1 : vs 22 = _ := hpre 22 (by decide) (by obtain rfl := Option.some.inj ho; rfl)
      obtain rfl := Option.some.inj ho
      simp only [canon, List.range, List.range.loop, List.foldl]
      go_simp
      refine (optMk1_calls o.ip w5).mono ?_
      rintro e6 w6 ⟨c, t, rfl, hc, hb⟩
      exact ⟨⟨c, t, rfl, hc⟩, hb⟩
    · obtain ⟨c0, t0, e0, h0⟩ : cloO 3 (.bool o.z) (vs 2) w5 := hpre 2 (by decide) (by obtain rfl := Option.some.inj ho; rfl)
      obtain ⟨c1, t1, e1, h1⟩ : cloO 5 (.bool o.id) (vs 5) w5 := hpre 5 (by decide) (by obtain rfl := Option.some.inj ho; rfl)
      obtain ⟨c2, t2, e2, h2⟩ : cloO 6 (.bool o.dup) (vs 8) w5 := hpre 8 (by decide) (by obtain rfl := Option.some.inj ho; rfl)
      obtain ⟨c3, t3, e3, h3⟩ : cloO 7 (.bool o.wh) (vs 11) w5 := hpre 11 (by decide) (by obtain rfl := Option.some.inj ho; rfl)
      obtain ⟨c4, t4, e4, h4⟩ : cloO 9 (.bool o.v1) (vs 14) w5 := hpre 14 (by decide) (by obtain rfl := Option.some.inj ho; rfl)
      obtain ⟨c5, t5, e5, h5⟩ : cloO 10 (.bool o.tr) (vs 17) w5 := hpre 17 (by decide) (by obtain rfl := Option.some.inj ho; rfl)
      obtain ⟨c6, t6, e6, h6⟩ : cloO 0 (.int .u64 o.dp) (vs 20) w5 := hpre 20 (by decide) (by obtain rfl := Option.some.inj ho; rfl)
      obtain ⟨c7, t7, e7, h7⟩ : cloO 1 (.int .u64 o.ip) (vs 23) w5 := hpre 23 (by decide) (by obtain rfl := Option.some.inj ho; rfl)
      have h0' := blk_keep h0 (HB5.out (.cells #[optV 3 c0, optV 5 c1, optV 6 c2, optV 7 c3, optV 9 c4, optV 10 c5, optV 0 c6, optV 1 c7] 69))
      have h1' := blk_keep h1 (HB5.out (.cells #[optV 3 c0, optV 5 c1, optV 6 c2, optV 7 c3, optV 9 c4, optV 10 c5, optV 0 c6, optV 1 c7] 69))
      have h2' := blk_keep h2 (HB5.out (.cells #[optV 3 c0, optV 5 c1, optV 6 c2, optV 7 c3, optV 9 c4, optV 10 c5, optV 0 c6, optV 1 c7] 69))
      have h3' := blk_keep h3 (HB5.out (.cells #[optV 3 c0, optV 5 c1, optV 6 c2, optV 7 c3, optV 9 c4, optV 10 c5, optV 0 c6, optV 1 c7] 69))
      have h4' := blk_keep h4 (HB5.out (.cells #[optV 3 c0, optV 5 c1, optV 6 c2, optV 7 c3, optV 9 c4, optV 10 c5, optV 0 c6, optV 1 c7] 69))
      have h5' := blk_keep h5 (HB5.out (.cells #[optV 3 c0, optV 5 c1, optV 6 c2, optV 7 c3, optV 9 c4, optV 10 c5, optV 0 c6, optV 1 c7] 69))
      have h6' := blk_keep h6 (HB5.out (.cells #[optV 3 c0, optV 5 c1, optV 6 c2, optV 7 c3, optV 9 c4, optV 10 c5, optV 0 c6, optV 1 c7] 69))
      have h7' := blk_keep h7 (HB5.out (.cells #[optV 3 c0, optV 5 c1, optV 6 c2, optV 7 c3, optV 9 c4, optV 10 c5, optV 0 c6, optV 1 c7] 69))
      have HH : Kp (OptsIn (w5.alloc (.cells #[optV 3 c0, optV 5 c1, optV 6 c2, optV 7 c3, optV 9 c4, optV 10 c5, optV 0 c6, optV 1 c7] 69)) [(3, c0, (.bool o.z)), (5, c1, (.bool o.id)), (6, c2, (.bool o.dup)), (7, c3, (.bool o.wh)), (9, c4, (.bool o.v1)), (10, c5, (.bool o.tr)), (0, c6, (.int .u64 o.dp)), (1, c7, (.int .u64 o.ip))]) := ⟨fun y hy => by
        simp only [List.mem_cons, List.not_mem_nil, or_false] at hy
        rcases hy with rfl | rfl | rfl | rfl | rfl | rfl | rfl | rfl
        · exact ⟨by simp [optKs], (show okO 3 (.bool o.z) from okO_b (by decide) _), t0, h0'⟩
        · exact ⟨by simp [optKs], (show okO 5 (.bool o.id) from okO_b (by decide) _), t1, h1'⟩
        · exact ⟨by simp [optKs], (show okO 6 (.bool o.dup) from okO_b (by decide) _), t2, h2'⟩
        · exact ⟨by simp [optKs], (show okO 7 (.bool o.wh) from okO_b (by decide) _), t3, h3'⟩
        · exact ⟨by simp [optKs], (show okO 9 (.bool o.v1) from okO_b (by decide) _), t4, h4'⟩
        · exact ⟨by simp [optKs], (show okO 10 (.bool o.tr) from okO_b (by decide) _), t5, h5'⟩
        · exact ⟨by simp [optKs], (show okO 0 (.int .u64 o.dp) from okO_u (by decide) _), t6, h6'⟩
        · exact ⟨by simp [optKs], (show okO 1 (.int .u64 o.ip) from okO_u (by decide) _), t7, h7'⟩⟩
      clear h0 h0' h1 h1' h2 h2' h3 h3' h4 h4' h5 h5' h6 h6' h7 h7'
      simp only [optV] at e0 e1 e2 e3 e4 e5 e6 e7 HH ⊢
      obtain rfl := Option.some.inj ho
      simp only [canon, List.range, List.range.loop, List.foldl]
      go_simp
      exact ⟨⟨_, c0, c1, c2, c3, c4, c5, c6, c7, HLT.out, rfl, HA5.out _, HH.out⟩, HB5.out _⟩
    · obtain ⟨g, c0, c1, c2, c3, c4, c5, c6, c7, hgb, e24, h1, h2⟩ : omR b o 24 (vs 24) w5 := hpre 24 (by decide) (by obtain rfl := Option.some.inj ho; rfl)
      have HH := Kp.mk (And.intro h1 h2)
      clear h1 h2
      obtain rfl := Option.some.inj ho
      simp only [canon, List.range, List.range.loop, List.foldl]
      go_simp
      exact ⟨⟨g, c0, c1, c2, c3, c4, c5, c6, c7, hgb, rfl, HH.out⟩, Below.refl _ _⟩
    · omega
  · intro vs w5 hb5 hr _
    obtain ⟨g, c0, c1, c2, c3, c4, c5, c6, c7, hgb, e25, h1, h2⟩ : omR b o 25 (vs 25) w5 := hr 25 (by omega)
    have e24 : vs 24 = vs 24 := rfl
    have hb05 := bel_then HB1.out (bel_then (bel_drew (Below.refl w1.heap.size w1)) hb5)
    have HN5 := Kp.mk (blk_keep HN1.out (bel_then (bel_drew (Below.refl w1.heap.size w1)) hb5))
    have HB5 := Kp.mk hb05
    have hgb : b + 1 ≤ g := hgb
    obtain ⟨E, hE⟩ : ∃ E : List (Nat × Nat × Value), E = [(3, c0, (.bool o.z)), (5, c1, (.bool o.id)), (6, c2, (.bool o.dup)), (7, c3, (.bool o.wh)), (9, c4, (.bool o.v1)), (10, c5, (.bool o.tr)), (0, c6, (.int .u64 o.dp)), (1, c7, (.int .u64 o.ip))] := ⟨_, rfl⟩
    have HO : Kp (OwnO (b + 1) w5 (some ⟨g, 0, none⟩) 8 E) := ⟨by rw [hE]; exact ⟨⟨rfl, .inr ⟨g, 8, _, rfl, hgb, h1, (show 8 ≤ 8 by decide), by decide, rfl, rfl⟩⟩, h2⟩⟩
    have HG : Kp (GoodO o.id o.wh E ∧ 8 = E.length) := ⟨by rw [hE]; refine ⟨⟨fun y hy h => ?_, fun y hy h => ?_, ⟨_, rfl⟩, ⟨_, rfl⟩⟩, rfl⟩ <;> (simp only [List.mem_cons, List.not_mem_nil, or_false] at hy; rcases hy with rfl | rfl | rfl | rfl | rfl | rfl | rfl | rfl <;> first | rfl | (simp at h))⟩
    have HB := Kp.mk hb05
    have HN := HN5
    obtain ⟨A, hA⟩ : ∃ A : Option Addr, A = some ⟨g, 0, none⟩ := ⟨_, rfl⟩
    rw [← hA] at HO e25
    obtain ⟨cap, hcap⟩ : ∃ cap, cap = 8 := ⟨_, rfl⟩
    have e25' : vs 25 = .slice A 8 cap := by rw [hcap]; exact e25
    rw [← hcap] at HO
    refine wpAny_none (by kernel_rfl) ?_ _
    simp only [canon, List.range, List.range.loop, List.foldl]
    rw [e25']
    clear h1 h2 hr hb5 hb05 hgb hE hA hcap e25 e25' HN5 HB5 HB1 HN1
    have d0 := blk_cell HN.out 8
    by_cases hz0 : o.codec = 0
    · have z0 : (o.codec : Int) = 0 := by omega
      have d1 := blk_cell HN.out 9
      by_cases hz1 : o.mc = 0
      · have z1 : (o.mc : Int) = 0 := by omega
        have d2 := blk_cell HN.out 10
        by_cases hz2 : o.mh = 0
        · have z2 : (o.mh : Int) = 0 := by omega
          have d3 := blk_cell HN.out 11
          by_cases hz3 : o.ms = 0
          · have z3 : (o.ms : Int) = 0 := by omega
            go_wp2_with fail
            go_ret
            exact ⟨optsEnd_of HO.out HG.out.1 HG.out.2 (by omega) (by omega), HB.out⟩
          · have z3 : (o.ms : Int) ≠ 0 := by omega
            go_wp2_with fail
            refine (optMk12_calls o.ms w5).mono ?_
            rintro e wA ⟨cj, tj, rfl, hc, hb⟩
            have hal := bel_alloc (Below.refl wA.heap.size wA) (.cells #[optV 12 cj] 69)
            have hbB := bel_then (bel_then HB.out hb) hal
            obtain ⟨A', cap', wC, hap, hoC, hxC⟩ := append_opt (b + 1) 8 A cap E HG.out.2 (by omega) (wA.alloc (.cells #[optV 12 cj] 69)) ((HO.out.below hb).below hal) (by have h1 := (Array.getElem?_eq_some_iff.1 HN.out).1; have h2 := hb.size; have h3 := hal.size; omega) (by omega) wA.heap.size 12 cj (.int .u64 o.ms) tj (blk_cell (blk_new (w := wA) (o := .cells #[optV 12 cj] 69) (Below.refl _ _)) 0) (by simp [optKs]) (okO_u (by decide) _) (blk_keep hc hal)
            have HN := Kp.mk (hxC.keep (blk_keep (blk_keep HN.out hb) hal) (show ¬ b + 1 ≤ b by omega))
            have HB := Kp.mk (hbB.trans (hxC.toBelow (B := w.heap.size) (fun j hj e => by have := HSZ.out; omega) hbB.size))
            have HO := Kp.mk hoC
            have HG : Kp (GoodO o.id o.wh (E ++ [(12, cj, .int .u64 o.ms)]) ∧ 9 = (E ++ [(12, cj, Value.int .u64 o.ms)]).length) := ⟨HG.out.1.snoc (by decide) (by decide), by rw [List.length_append, ← HG.out.2]; rfl⟩
            simp only [optV] at hap ⊢
            have HAP := Kp.mk hap
            clear hc hb hal hbB hap hoC hxC d3
            go_wp2_with (first | (at_builtin; refine Lib.wpList_append_run _ rfl _ _ _ _ rfl _ _ rfl rfl _ _ HAP.out ?_))
            clear HAP
            generalize E ++ [(12, cj, Value.int .u64 o.ms)] = E at *
            generalize A' = A at *
            generalize cap' = cap at *
            go_ret
            exact ⟨optsEnd_of HO.out HG.out.1 HG.out.2 (by omega) (by omega), HB.out⟩
        · have z2 : (o.mh : Int) ≠ 0 := by omega
          go_wp2_with fail
          refine (optMk11_calls o.mh w5).mono ?_
          rintro e wA ⟨cj, tj, rfl, hc, hb⟩
          have hal := bel_alloc (Below.refl wA.heap.size wA) (.cells #[optV 11 cj] 69)
          have hbB := bel_then (bel_then HB.out hb) hal
          obtain ⟨A', cap', wC, hap, hoC, hxC⟩ := append_opt (b + 1) 8 A cap E HG.out.2 (by omega) (wA.alloc (.cells #[optV 11 cj] 69)) ((HO.out.below hb).below hal) (by have h1 := (Array.getElem?_eq_some_iff.1 HN.out).1; have h2 := hb.size; have h3 := hal.size; omega) (by omega) wA.heap.size 11 cj (.int .u64 o.mh) tj (blk_cell (blk_new (w := wA) (o := .cells #[optV 11 cj] 69) (Below.refl _ _)) 0) (by simp [optKs]) (okO_u (by decide) _) (blk_keep hc hal)
          have HN := Kp.mk (hxC.keep (blk_keep (blk_keep HN.out hb) hal) (show ¬ b + 1 ≤ b by omega))
          have HB := Kp.mk (hbB.trans (hxC.toBelow (B := w.heap.size) (fun j hj e => by have := HSZ.out; omega) hbB.size))
          have HO := Kp.mk hoC
          have HG : Kp (GoodO o.id o.wh (E ++ [(11, cj, .int .u64 o.mh)]) ∧ 9 = (E ++ [(11, cj, Value.int .u64 o.mh)]).length) := ⟨HG.out.1.snoc (by decide) (by decide), by rw [List.length_append, ← HG.out.2]; rfl⟩
          simp only [optV] at hap ⊢
          have HAP := Kp.mk hap
          clear hc hb hal hbB hap hoC hxC d2
          have d3 := blk_cell HN.out 11
          by_cases hz3 : o.ms = 0
          · have z3 : (o.ms : Int) = 0 := by omega
            go_wp2_with (first | (at_builtin; refine Lib.wpList_append_run _ rfl _ _ _ _ rfl _ _ rfl rfl _ _ HAP.out ?_))
            clear HAP
            generalize E ++ [(11, cj, Value.int .u64 o.mh)] = E at *
            generalize A' = A at *
            generalize cap' = cap at *
            go_ret
            exact ⟨optsEnd_of HO.out HG.out.1 HG.out.2 (by omega) (by omega), HB.out⟩
          · have z3 : (o.ms : Int) ≠ 0 := by omega
            go_wp2_with (first | (at_builtin; refine Lib.wpList_append_run _ rfl _ _ _ _ rfl _ _ rfl rfl _ _ HAP.out ?_))
            clear HAP
            generalize E ++ [(11, cj, Value.int .u64 o.mh)] = E at *
            generalize A' = A at *
            generalize cap' = cap at *
            refine (optMk12_calls o.ms wC).mono ?_
            rintro e wA ⟨cj, tj, rfl, hc, hb⟩
            have hal := bel_alloc (Below.refl wA.heap.size wA) (.cells #[optV 12 cj] 69)
            have hbB := bel_then (bel_then HB.out hb) hal
            obtain ⟨A', cap', wC, hap, hoC, hxC⟩ := append_opt (b + 1) 9 A cap E HG.out.2 (by omega) (wA.alloc (.cells #[optV 12 cj] 69)) ((HO.out.below hb).below hal) (by have h1 := (Array.getElem?_eq_some_iff.1 HN.out).1; have h2 := hb.size; have h3 := hal.size; omega) (by omega) wA.heap.size 12 cj (.int .u64 o.ms) tj (blk_cell (blk_new (w := wA) (o := .cells #[optV 12 cj] 69) (Below.refl _ _)) 0) (by simp [optKs]) (okO_u (by decide) _) (blk_keep hc hal)
            have HN := Kp.mk (hxC.keep (blk_keep (blk_keep HN.out hb) hal) (show ¬ b + 1 ≤ b by omega))
            have HB := Kp.mk (hbB.trans (hxC.toBelow (B := w.heap.size) (fun j hj e => by have := HSZ.out; omega) hbB.size))
            have HO := Kp.mk hoC
            have HG : Kp (GoodO o.id o.wh (E ++ [(12, cj, .int .u64 o.ms)]) ∧ 10 = (E ++ [(12, cj, Value.int .u64 o.ms)]).length) := ⟨HG.out.1.snoc (by decide) (by decide), by rw [List.length_append, ← HG.out.2]; rfl⟩
            simp only [optV] at hap ⊢
            have HAP := Kp.mk hap
            clear hc hb hal hbB hap hoC hxC d3
            go_wp2_with (first | (at_builtin; refine Lib.wpList_append_run _ rfl _ _ _ _ rfl _ _ rfl rfl _ _ HAP.out ?_))
            clear HAP
            generalize E ++ [(12, cj, Value.int .u64 o.ms)] = E at *
            generalize A' = A at *
            generalize cap' = cap at *
            go_ret
            exact ⟨optsEnd_of HO.out HG.out.1 HG.out.2 (by omega) (by omega), HB.out⟩
      · have z1 : (o.mc : Int) ≠ 0 := by omega
        go_wp2_with fail
        refine (optMk4_calls o.mc w5).mono ?_
        rintro e wA ⟨cj, tj, rfl, hc, hb⟩
        have hal := bel_alloc (Below.refl wA.heap.size wA) (.cells #[optV 4 cj] 69)
        have hbB := bel_then (bel_then HB.out hb) hal
        obtain ⟨A', cap', wC, hap, hoC, hxC⟩ := append_opt (b + 1) 8 A cap E HG.out.2 (by omega) (wA.alloc (.cells #[optV 4 cj] 69)) ((HO.out.below hb).below hal) (by have h1 := (Array.getElem?_eq_some_iff.1 HN.out).1; have h2 := hb.size; have h3 := hal.size; omega) (by omega) wA.heap.size 4 cj (.int .u64 o.mc) tj (blk_cell (blk_new (w := wA) (o := .cells #[optV 4 cj] 69) (Below.refl _ _)) 0) (by simp [optKs]) (okO_u (by decide) _) (blk_keep hc hal)
        have HN := Kp.mk (hxC.keep (blk_keep (blk_keep HN.out hb) hal) (show ¬ b + 1 ≤ b by omega))
        have HB := Kp.mk (hbB.trans (hxC.toBelow (B := w.heap.size) (fun j hj e => by have := HSZ.out; omega) hbB.size))
        have HO := Kp.mk hoC
        have HG : Kp (GoodO o.id o.wh (E ++ [(4, cj, .int .u64 o.mc)]) ∧ 9 = (E ++ [(4, cj, Value.int .u64 o.mc)]).length) := ⟨HG.out.1.snoc (by decide) (by decide), by rw [List.length_append, ← HG.out.2]; rfl⟩
        simp only [optV] at hap ⊢
        have HAP := Kp.mk hap
        clear hc hb hal hbB hap hoC hxC d1
        have d2 := blk_cell HN.out 10
        by_cases hz2 : o.mh = 0
        · have z2 : (o.mh : Int) = 0 := by omega
          have d3 := blk_cell HN.out 11
          by_cases hz3 : o.ms = 0
          · have z3 : (o.ms : Int) = 0 := by omega
            go_wp2_with (first | (at_builtin; refine Lib.wpList_append_run _ rfl _ _ _ _ rfl _ _ rfl rfl _ _ HAP.out ?_))
            clear HAP
            generalize E ++ [(4, cj, Value.int .u64 o.mc)] = E at *
            generalize A' = A at *
            generalize cap' = cap at *
            go_ret
            exact ⟨optsEnd_of HO.out HG.out.1 HG.out.2 (by omega) (by omega), HB.out⟩
          · have z3 : (o.ms : Int) ≠ 0 := by omega
            go_wp2_with (first | (at_builtin; refine Lib.wpList_append_run _ rfl _ _ _ _ rfl _ _ rfl rfl _ _ HAP.out ?_))
            clear HAP
            generalize E ++ [(4, cj, Value.int .u64 o.mc)] = E at *
            generalize A' = A at *
            generalize cap' = cap at *
            refine (optMk12_calls o.ms wC).mono ?_
            rintro e wA ⟨cj, tj, rfl, hc, hb⟩
            have hal := bel_alloc (Below.refl wA.heap.size wA) (.cells #[optV 12 cj] 69)
            have hbB := bel_then (bel_then HB.out hb) hal
            obtain ⟨A', cap', wC, hap, hoC, hxC⟩ := append_opt (b + 1) 9 A cap E HG.out.2 (by omega) (wA.alloc (.cells #[optV 12 cj] 69)) ((HO.out.below hb).below hal) (by have h1 := (Array.getElem?_eq_some_iff.1 HN.out).1; have h2 := hb.size; have h3 := hal.size; omega) (by omega) wA.heap.size 12 cj (.int .u64 o.ms) tj (blk_cell (blk_new (w := wA) (o := .cells #[optV 12 cj] 69) (Below.refl _ _)) 0) (by simp [optKs]) (okO_u (by decide) _) (blk_keep hc hal)
            have HN := Kp.mk (hxC.keep (blk_keep (blk_keep HN.out hb) hal) (show ¬ b + 1 ≤ b by omega))
            have HB := Kp.mk (hbB.trans (hxC.toBelow (B := w.heap.size) (fun j hj e => by have := HSZ.out; omega) hbB.size))
            have HO := Kp.mk hoC
            have HG : Kp (GoodO o.id o.wh (E ++ [(12, cj, .int .u64 o.ms)]) ∧ 10 = (E ++ [(12, cj, Value.int .u64 o.ms)]).length) := ⟨HG.out.1.snoc (by decide) (by decide), by rw [List.length_append, ← HG.out.2]; rfl⟩
            simp only [optV] at hap ⊢
            have HAP := Kp.mk hap
            clear hc hb hal hbB hap hoC hxC d3
            go_wp2_with (first | (at_builtin; refine Lib.wpList_append_run _ rfl _ _ _ _ rfl _ _ rfl rfl _ _ HAP.out ?_))
            clear HAP
            generalize E ++ [(12, cj, Value.int .u64 o.ms)] = E at *
            generalize A' = A at *
            generalize cap' = cap at *
            go_ret
            exact ⟨optsEnd_of HO.out HG.out.1 HG.out.2 (by omega) (by omega), HB.out⟩
        · have z2 : (o.mh : Int) ≠ 0 := by omega
          go_wp2_with (first | (at_builtin; refine Lib.wpList_append_run _ rfl _ _ _ _ rfl _ _ rfl rfl _ _ HAP.out ?_))
          clear HAP
          generalize E ++ [(4, cj, Value.int .u64 o.mc)] = E at *
          generalize A' = A at *
          generalize cap' = cap at *
          refine (optMk11_calls o.mh wC).mono ?_
          rintro e wA ⟨cj, tj, rfl, hc, hb⟩
          have hal := bel_alloc (Below.refl wA.heap.size wA) (.cells #[optV 11 cj] 69)
          have hbB := bel_then (bel_then HB.out hb) hal
          obtain ⟨A', cap', wC, hap, hoC, hxC⟩ := append_opt (b + 1) 9 A cap E HG.out.2 (by omega) (wA.alloc (.cells #[optV 11 cj] 69)) ((HO.out.below hb).below hal) (by have h1 := (Array.getElem?_eq_some_iff.1 HN.out).1; have h2 := hb.size; have h3 := hal.size; omega) (by omega) wA.heap.size 11 cj (.int .u64 o.mh) tj (blk_cell (blk_new (w := wA) (o := .cells #[optV 11 cj] 69) (Below.refl _ _)) 0) (by simp [optKs]) (okO_u (by decide) _) (blk_keep hc hal)
          have HN := Kp.mk (hxC.keep (blk_keep (blk_keep HN.out hb) hal) (show ¬ b + 1 ≤ b by omega))
          have HB := Kp.mk (hbB.trans (hxC.toBelow (B := w.heap.size) (fun j hj e => by have := HSZ.out; omega) hbB.size))
          have HO := Kp.mk hoC
          have HG : Kp (GoodO o.id o.wh (E ++ [(11, cj, .int .u64 o.mh)]) ∧ 10 = (E ++ [(11, cj, Value.int .u64 o.mh)]).length) := ⟨HG.out.1.snoc (by decide) (by decide), by rw [List.length_append, ← HG.out.2]; rfl⟩
          simp only [optV] at hap ⊢
          have HAP := Kp.mk hap
          clear hc hb hal hbB hap hoC hxC d2
          have d3 := blk_cell HN.out 11
          by_cases hz3 : o.ms = 0
          · have z3 : (o.ms : Int) = 0 := by omega
            go_wp2_with (first | (at_builtin; refine Lib.wpList_append_run _ rfl _ _ _ _ rfl _ _ rfl rfl _ _ HAP.out ?_))
            clear HAP
            generalize E ++ [(11, cj, Value.int .u64 o.mh)] = E at *
            generalize A' = A at *
            generalize cap' = cap at *
            go_ret
            exact ⟨optsEnd_of HO.out HG.out.1 HG.out.2 (by omega) (by omega), HB.out⟩
          · have z3 : (o.ms : Int) ≠ 0 := by omega
            go_wp2_with (first | (at_builtin; refine Lib.wpList_append_run _ rfl _ _ _ _ rfl _ _ rfl rfl _ _ HAP.out ?_))
            clear HAP
            generalize E ++ [(11, cj, Value.int .u64 o.mh)] = E at *
            generalize A' = A at *
            generalize cap' = cap at *
            refine (optMk12_calls o.ms wC).mono ?_
            rintro e wA ⟨cj, tj, rfl, hc, hb⟩
            have hal := bel_alloc (Below.refl wA.heap.size wA) (.cells #[optV 12 cj] 69)
            have hbB := bel_then (bel_then HB.out hb) hal
            obtain ⟨A', cap', wC, hap, hoC, hxC⟩ := append_opt (b + 1) 10 A cap E HG.out.2 (by omega) (wA.alloc (.cells #[optV 12 cj] 69)) ((HO.out.below hb).below hal) (by have h1 := (Array.getElem?_eq_some_iff.1 HN.out).1; have h2 := hb.size; have h3 := hal.size; omega) (by omega) wA.heap.size 12 cj (.int .u64 o.ms) tj (blk_cell (blk_new (w := wA) (o := .cells #[optV 12 cj] 69) (Below.refl _ _)) 0) (by simp [optKs]) (okO_u (by decide) _) (blk_keep hc hal)
            have HN := Kp.mk (hxC.keep (blk_keep (blk_keep HN.out hb) hal) (show ¬ b + 1 ≤ b by omega))
            have HB := Kp.mk (hbB.trans (hxC.toBelow (B := w.heap.size) (fun j hj e => by have := HSZ.out; omega) hbB.size))
            have HO := Kp.mk hoC
            have HG : Kp (GoodO o.id o.wh (E ++ [(12, cj, .int .u64 o.ms)]) ∧ 11 = (E ++ [(12, cj, Value.int .u64 o.ms)]).length) := ⟨HG.out.1.snoc (by decide) (by decide), by rw [List.length_append, ← HG.out.2]; rfl⟩
            simp only [optV] at hap ⊢
            have HAP := Kp.mk hap
            clear hc hb hal hbB hap hoC hxC d3
            go_wp2_with (first | (at_builtin; refine Lib.wpList_append_run _ rfl _ _ _ _ rfl _ _ rfl rfl _ _ HAP.out ?_))
            clear HAP
            generalize E ++ [(12, cj, Value.int .u64 o.ms)] = E at *
            generalize A' = A at *
            generalize cap' = cap at *
            go_ret
            exact ⟨optsEnd_of HO.out HG.out.1 HG.out.2 (by omega) (by omega), HB.out⟩
    · have z0 : (o.codec : Int) ≠ 0 := by omega
      go_wp2_with fail
      refine (optMk2_calls o.codec w5).mono ?_
      rintro e wA ⟨cj, tj, rfl, hc, hb⟩
      have hal := bel_alloc (Below.refl wA.heap.size wA) (.cells #[optV 2 cj] 69)
      have hbB := bel_then (bel_then HB.out hb) hal
      obtain ⟨A', cap', wC, hap, hoC, hxC⟩ := append_opt (b + 1) 8 A cap E HG.out.2 (by omega) (wA.alloc (.cells #[optV 2 cj] 69)) ((HO.out.below hb).below hal) (by have h1 := (Array.getElem?_eq_some_iff.1 HN.out).1; have h2 := hb.size; have h3 := hal.size; omega) (by omega) wA.heap.size 2 cj (.int .u64 o.codec) tj (blk_cell (blk_new (w := wA) (o := .cells #[optV 2 cj] 69) (Below.refl _ _)) 0) (by simp [optKs]) (okO_u (by decide) _) (blk_keep hc hal)
      have HN := Kp.mk (hxC.keep (blk_keep (blk_keep HN.out hb) hal) (show ¬ b + 1 ≤ b by omega))
      have HB := Kp.mk (hbB.trans (hxC.toBelow (B := w.heap.size) (fun j hj e => by have := HSZ.out; omega) hbB.size))
      have HO := Kp.mk hoC
      have HG : Kp (GoodO o.id o.wh (E ++ [(2, cj, .int .u64 o.codec)]) ∧ 9 = (E ++ [(2, cj, Value.int .u64 o.codec)]).length) := ⟨HG.out.1.snoc (by decide) (by decide), by rw [List.length_append, ← HG.out.2]; rfl⟩
      simp only [optV] at hap ⊢
      have HAP := Kp.mk hap
      clear hc hb hal hbB hap hoC hxC d0
      have d1 := blk_cell HN.out 9
      by_cases hz1 : o.mc = 0
      · have z1 : (o.mc : Int) = 0 := by omega
        have d2 := blk_cell HN.out 10
        by_cases hz2 : o.mh = 0
        · have z2 : (o.mh : Int) = 0 := by omega
          have d3 := blk_cell HN.out 11
          by_cases hz3 : o.ms = 0
          · have z3 : (o.ms : Int) = 0 := by omega
            go_wp2_with (first | (at_builtin; refine Lib.wpList_append_run _ rfl _ _ _ _ rfl _ _ rfl rfl _ _ HAP.out ?_))
            clear HAP
            generalize E ++ [(2, cj, Value.int .u64 o.codec)] = E at *
            generalize A' = A at *
            generalize cap' = cap at *
            go_ret
            exact ⟨optsEnd_of HO.out HG.out.1 HG.out.2 (by omega) (by omega), HB.out⟩
          · have z3 : (o.ms : Int) ≠ 0 := by omega
            go_wp2_with (first | (at_builtin; refine Lib.wpList_append_run _ rfl _ _ _ _ rfl _ _ rfl rfl _ _ HAP.out ?_))
            clear HAP
            generalize E ++ [(2, cj, Value.int .u64 o.codec)] = E at *
            generalize A' = A at *
            generalize cap' = cap at *
            refine (optMk12_calls o.ms wC).mono ?_
            rintro e wA ⟨cj, tj, rfl, hc, hb⟩
            have hal := bel_alloc (Below.refl wA.heap.size wA) (.cells #[optV 12 cj] 69)
            have hbB := bel_then (bel_then HB.out hb) hal
            obtain ⟨A', cap', wC, hap, hoC, hxC⟩ := append_opt (b + 1) 9 A cap E HG.out.2 (by omega) (wA.alloc (.cells #[optV 12 cj] 69)) ((HO.out.below hb).below hal) (by have h1 := (Array.getElem?_eq_some_iff.1 HN.out).1; have h2 := hb.size; have h3 := hal.size; omega) (by omega) wA.heap.size 12 cj (.int .u64 o.ms) tj (blk_cell (blk_new (w := wA) (o := .cells #[optV 12 cj] 69) (Below.refl _ _)) 0) (by simp [optKs]) (okO_u (by decide) _) (blk_keep hc hal)
            have HN := Kp.mk (hxC.keep (blk_keep (blk_keep HN.out hb) hal) (show ¬ b + 1 ≤ b by omega))
            have HB := Kp.mk (hbB.trans (hxC.toBelow (B := w.heap.size) (fun j hj e => by have := HSZ.out; omega) hbB.size))
            have HO := Kp.mk hoC
            have HG : Kp (GoodO o.id o.wh (E ++ [(12, cj, .int .u64 o.ms)]) ∧ 10 = (E ++ [(12, cj, Value.int .u64 o.ms)]).length) := ⟨HG.out.1.snoc (by decide) (by decide), by rw [List.length_append, ← HG.out.2]; rfl⟩
            simp only [optV] at hap ⊢
            have HAP := Kp.mk hap
            clear hc hb hal hbB hap hoC hxC d3
            go_wp2_with (first | (at_builtin; refine Lib.wpList_append_run _ rfl _ _ _ _ rfl _ _ rfl rfl _ _ HAP.out ?_))
            clear HAP
            generalize E ++ [(12, cj, Value.int .u64 o.ms)] = E at *
            generalize A' = A at *
            generalize cap' = cap at *
            go_ret
            exact ⟨optsEnd_of HO.out HG.out.1 HG.out.2 (by omega) (by omega), HB.out⟩
        · have z2 : (o.mh : Int) ≠ 0 := by omega
          go_wp2_with (first | (at_builtin; refine Lib.wpList_append_run _ rfl _ _ _ _ rfl _ _ rfl rfl _ _ HAP.out ?_))
          clear HAP
          generalize E ++ [(2, cj, Value.int .u64 o.codec)] = E at *
          generalize A' = A at *
          generalize cap' = cap at *
          refine (optMk11_calls o.mh wC).mono ?_
          rintro e wA ⟨cj, tj, rfl, hc, hb⟩
          have hal := bel_alloc (Below.refl wA.heap.size wA) (.cells #[optV 11 cj] 69)
          have hbB := bel_then (bel_then HB.out hb) hal
          obtain ⟨A', cap', wC, hap, hoC, hxC⟩ := append_opt (b + 1) 9 A cap E HG.out.2 (by omega) (wA.alloc (.cells #[optV 11 cj] 69)) ((HO.out.below hb).below hal) (by have h1 := (Array.getElem?_eq_some_iff.1 HN.out).1; have h2 := hb.size; have h3 := hal.size; omega) (by omega) wA.heap.size 11 cj (.int .u64 o.mh) tj (blk_cell (blk_new (w := wA) (o := .cells #[optV 11 cj] 69) (Below.refl _ _)) 0) (by simp [optKs]) (okO_u (by decide) _) (blk_keep hc hal)
          have HN := Kp.mk (hxC.keep (blk_keep (blk_keep HN.out hb) hal) (show ¬ b + 1 ≤ b by omega))
          have HB := Kp.mk (hbB.trans (hxC.toBelow (B := w.heap.size) (fun j hj e => by have := HSZ.out; omega) hbB.size))
          have HO := Kp.mk hoC
          have HG : Kp (GoodO o.id o.wh (E ++ [(11, cj, .int .u64 o.mh)]) ∧ 10 = (E ++ [(11, cj, Value.int .u64 o.mh)]).length) := ⟨HG.out.1.snoc (by decide) (by decide), by rw [List.length_append, ← HG.out.2]; rfl⟩
          simp only [optV] at hap ⊢
          have HAP := Kp.mk hap
          clear hc hb hal hbB hap hoC hxC d2
          have d3 := blk_cell HN.out 11
          by_cases hz3 : o.ms = 0
          · have z3 : (o.ms : Int) = 0 := by omega
            go_wp2_with (first | (at_builtin; refine Lib.wpList_append_run _ rfl _ _ _ _ rfl _ _ rfl rfl _ _ HAP.out ?_))
            clear HAP
            generalize E ++ [(11, cj, Value.int .u64 o.mh)] = E at *
            generalize A' = A at *
            generalize cap' = cap at *
            go_ret
            exact ⟨optsEnd_of HO.out HG.out.1 HG.out.2 (by omega) (by omega), HB.out⟩
          · have z3 : (o.ms : Int) ≠ 0 := by omega
            go_wp2_with (first | (at_builtin; refine Lib.wpList_append_run _ rfl _ _ _ _ rfl _ _ rfl rfl _ _ HAP.out ?_))
            clear HAP
            generalize E ++ [(11, cj, Value.int .u64 o.mh)] = E at *
            generalize A' = A at *
            generalize cap' = cap at *
            refine (optMk12_calls o.ms wC).mono ?_
            rintro e wA ⟨cj, tj, rfl, hc, hb⟩
            have hal := bel_alloc (Below.refl wA.heap.size wA) (.cells #[optV 12 cj] 69)
            have hbB := bel_then (bel_then HB.out hb) hal
            obtain ⟨A', cap', wC, hap, hoC, hxC⟩ := append_opt (b + 1) 10 A cap E HG.out.2 (by omega) (wA.alloc (.cells #[optV 12 cj] 69)) ((HO.out.below hb).below hal) (by have h1 := (Array.getElem?_eq_some_iff.1 HN.out).1; have h2 := hb.size; have h3 := hal.size; omega) (by omega) wA.heap.size 12 cj (.int .u64 o.ms) tj (blk_cell (blk_new (w := wA) (o := .cells #[optV 12 cj] 69) (Below.refl _ _)) 0) (by simp [optKs]) (okO_u (by decide) _) (blk_keep hc hal)
            have HN := Kp.mk (hxC.keep (blk_keep (blk_keep HN.out hb) hal) (show ¬ b + 1 ≤ b by omega))
            have HB := Kp.mk (hbB.trans (hxC.toBelow (B := w.heap.size) (fun j hj e => by have := HSZ.out; omega) hbB.size))
            have HO := Kp.mk hoC
            have HG : Kp (GoodO o.id o.wh (E ++ [(12, cj, .int .u64 o.ms)]) ∧ 11 = (E ++ [(12, cj, Value.int .u64 o.ms)]).length) := ⟨HG.out.1.snoc (by decide) (by decide), by rw [List.length_append, ← HG.out.2]; rfl⟩
            simp only [optV] at hap ⊢
            have HAP := Kp.mk hap
            clear hc hb hal hbB hap hoC hxC d3
            go_wp2_with (first | (at_builtin; refine Lib.wpList_append_run _ rfl _ _ _ _ rfl _ _ rfl rfl _ _ HAP.out ?_))
            clear HAP
            generalize E ++ [(12, cj, Value.int .u64 o.ms)] = E at *
            generalize A' = A at *
            generalize cap' = cap at *
            go_ret
            exact ⟨optsEnd_of HO.out HG.out.1 HG.out.2 (by omega) (by omega), HB.out⟩
      · have z1 : (o.mc : Int) ≠ 0 := by omega
        go_wp2_with (first | (at_builtin; refine Lib.wpList_append_run _ rfl _ _ _ _ rfl _ _ rfl rfl _ _ HAP.out ?_))
        clear HAP
        generalize E ++ [(2, cj, Value.int .u64 o.codec)] = E at *
        generalize A' = A at *
        generalize cap' = cap at *
        refine (optMk4_calls o.mc wC).mono ?_
        rintro e wA ⟨cj, tj, rfl, hc, hb⟩
        have hal := bel_alloc (Below.refl wA.heap.size wA) (.cells #[optV 4 cj] 69)
        have hbB := bel_then (bel_then HB.out hb) hal
        obtain ⟨A', cap', wC, hap, hoC, hxC⟩ := append_opt (b + 1) 9 A cap E HG.out.2 (by omega) (wA.alloc (.cells #[optV 4 cj] 69)) ((HO.out.below hb).below hal) (by have h1 := (Array.getElem?_eq_some_iff.1 HN.out).1; have h2 := hb.size; have h3 := hal.size; omega) (by omega) wA.heap.size 4 cj (.int .u64 o.mc) tj (blk_cell (blk_new (w := wA) (o := .cells #[optV 4 cj] 69) (Below.refl _ _)) 0) (by simp [optKs]) (okO_u (by decide) _) (blk_keep hc hal)
        have HN := Kp.mk (hxC.keep (blk_keep (blk_keep HN.out hb) hal) (show ¬ b + 1 ≤ b by omega))
        have HB := Kp.mk (hbB.trans (hxC.toBelow (B := w.heap.size) (fun j hj e => by have := HSZ.out; omega) hbB.size))
        have HO := Kp.mk hoC
        have HG : Kp (GoodO o.id o.wh (E ++ [(4, cj, .int .u64 o.mc)]) ∧ 10 = (E ++ [(4, cj, Value.int .u64 o.mc)]).length) := ⟨HG.out.1.snoc (by decide) (by decide), by rw [List.length_append, ← HG.out.2]; rfl⟩
        simp only [optV] at hap ⊢
        have HAP := Kp.mk hap
        clear hc hb hal hbB hap hoC hxC d1
        have d2 := blk_cell HN.out 10
        by_cases hz2 : o.mh = 0
        · have z2 : (o.mh : Int) = 0 := by omega
          have d3 := blk_cell HN.out 11
          by_cases hz3 : o.ms = 0
          · have z3 : (o.ms : Int) = 0 := by omega
            go_wp2_with (first | (at_builtin; refine Lib.wpList_append_run _ rfl _ _ _ _ rfl _ _ rfl rfl _ _ HAP.out ?_))
            clear HAP
            generalize E ++ [(4, cj, Value.int .u64 o.mc)] = E at *
            generalize A' = A at *
            generalize cap' = cap at *
            go_ret
            exact ⟨optsEnd_of HO.out HG.out.1 HG.out.2 (by omega) (by omega), HB.out⟩
          · have z3 : (o.ms : Int) ≠ 0 := by omega
            go_wp2_with (first | (at_builtin; refine Lib.wpList_append_run _ rfl _ _ _ _ rfl _ _ rfl rfl _ _ HAP.out ?_))
            clear HAP
            generalize E ++ [(4, cj, Value.int .u64 o.mc)] = E at *
            generalize A' = A at *
            generalize cap' = cap at *
            refine (optMk12_calls o.ms wC).mono ?_
            rintro e wA ⟨cj, tj, rfl, hc, hb⟩
            have hal := bel_alloc (Below.refl wA.heap.size wA) (.cells #[optV 12 cj] 69)
            have hbB := bel_then (bel_then HB.out hb) hal
            obtain ⟨A', cap', wC, hap, hoC, hxC⟩ := append_opt (b + 1) 10 A cap E HG.out.2 (by omega) (wA.alloc (.cells #[optV 12 cj] 69)) ((HO.out.below hb).below hal) (by have h1 := (Array.getElem?_eq_some_iff.1 HN.out).1; have h2 := hb.size; have h3 := hal.size; omega) (by omega) wA.heap.size 12 cj (.int .u64 o.ms) tj (blk_cell (blk_new (w := wA) (o := .cells #[optV 12 cj] 69) (Below.refl _ _)) 0) (by simp [optKs]) (okO_u (by decide) _) (blk_keep hc hal)
            have HN := Kp.mk (hxC.keep (blk_keep (blk_keep HN.out hb) hal) (show ¬ b + 1 ≤ b by omega))
            have HB := Kp.mk (hbB.trans (hxC.toBelow (B := w.heap.size) (fun j hj e => by have := HSZ.out; omega) hbB.size))
            have HO := Kp.mk hoC
            have HG : Kp (GoodO o.id o.wh (E ++ [(12, cj, .int .u64 o.ms)]) ∧ 11 = (E ++ [(12, cj, Value.int .u64 o.ms)]).length) := ⟨HG.out.1.snoc (by decide) (by decide), by rw [List.length_append, ← HG.out.2]; rfl⟩
            simp only [optV] at hap ⊢
            have HAP := Kp.mk hap
            clear hc hb hal hbB hap hoC hxC d3
            go_wp2_with (first | (at_builtin; refine Lib.wpList_append_run _ rfl _ _ _ _ rfl _ _ rfl rfl _ _ HAP.out ?_))
            clear HAP
            generalize E ++ [(12, cj, Value.int .u64 o.ms)] = E at *
            generalize A' = A at *
            generalize cap' = cap at *
            go_ret
            exact ⟨optsEnd_of HO.out HG.out.1 HG.out.2 (by omega) (by omega), HB.out⟩
        · have z2 : (o.mh : Int) ≠ 0 := by omega
          go_wp2_with (first | (at_builtin; refine Lib.wpList_append_run _ rfl _ _ _ _ rfl _ _ rfl rfl _ _ HAP.out ?_))
          clear HAP
          generalize E ++ [(4, cj, Value.int .u64 o.mc)] = E at *
          generalize A' = A at *
          generalize cap' = cap at *
          refine (optMk11_calls o.mh wC).mono ?_
          rintro e wA ⟨cj, tj, rfl, hc, hb⟩
          have hal := bel_alloc (Below.refl wA.heap.size wA) (.cells #[optV 11 cj] 69)
          have hbB := bel_then (bel_then HB.out hb) hal
          obtain ⟨A', cap', wC, hap, hoC, hxC⟩ := append_opt (b + 1) 10 A cap E HG.out.2 (by omega) (wA.alloc (.cells #[optV 11 cj] 69)) ((HO.out.below hb).below hal) (by have h1 := (Array.getElem?_eq_some_iff.1 HN.out).1; have h2 := hb.size; have h3 := hal.size; omega) (by omega) wA.heap.size 11 cj (.int .u64 o.mh) tj (blk_cell (blk_new (w := wA) (o := .cells #[optV 11 cj] 69) (Below.refl _ _)) 0) (by simp [optKs]) (okO_u (by decide) _) (blk_keep hc hal)
          have HN := Kp.mk (hxC.keep (blk_keep (blk_keep HN.out hb) hal) (show ¬ b + 1 ≤ b by omega))
          have HB := Kp.mk (hbB.trans (hxC.toBelow (B := w.heap.size) (fun j hj e => by have := HSZ.out; omega) hbB.size))
          have HO := Kp.mk hoC
          have HG : Kp (GoodO o.id o.wh (E ++ [(11, cj, .int .u64 o.mh)]) ∧ 11 = (E ++ [(11, cj, Value.int .u64 o.mh)]).length) := ⟨HG.out.1.snoc (by decide) (by decide), by rw [List.length_append, ← HG.out.2]; rfl⟩
          simp only [optV] at hap ⊢
          have HAP := Kp.mk hap
          clear hc hb hal hbB hap hoC hxC d2
          have d3 := blk_cell HN.out 11
          by_cases hz3 : o.ms = 0
          · have z3 : (o.ms : Int) = 0 := by omega
            go_wp2_with (first | (at_builtin; refine Lib.wpList_append_run _ rfl _ _ _ _ rfl _ _ rfl rfl _ _ HAP.out ?_))
            clear HAP
            generalize E ++ [(11, cj, Value.int .u64 o.mh)] = E at *
            generalize A' = A at *
            generalize cap' = cap at *
            go_ret
            exact ⟨optsEnd_of HO.out HG.out.1 HG.out.2 (by omega) (by omega), HB.out⟩
          · have z3 : (o.ms : Int) ≠ 0 := by omega
            go_wp2_with (first | (at_builtin; refine Lib.wpList_append_run _ rfl _ _ _ _ rfl _ _ rfl rfl _ _ HAP.out ?_))
            clear HAP
            generalize E ++ [(11, cj, Value.int .u64 o.mh)] = E at *
            generalize A' = A at *
            generalize cap' = cap at *
            refine (optMk12_calls o.ms wC).mono ?_
            rintro e wA ⟨cj, tj, rfl, hc, hb⟩
            have hal := bel_alloc (Below.refl wA.heap.size wA) (.cells #[optV 12 cj] 69)
            have hbB := bel_then (bel_then HB.out hb) hal
            obtain ⟨A', cap', wC, hap, hoC, hxC⟩ := append_opt (b + 1) 11 A cap E HG.out.2 (by omega) (wA.alloc (.cells #[optV 12 cj] 69)) ((HO.out.below hb).below hal) (by have h1 := (Array.getElem?_eq_some_iff.1 HN.out).1; have h2 := hb.size; have h3 := hal.size; omega) (by omega) wA.heap.size 12 cj (.int .u64 o.ms) tj (blk_cell (blk_new (w := wA) (o := .cells #[optV 12 cj] 69) (Below.refl _ _)) 0) (by simp [optKs]) (okO_u (by decide) _) (blk_keep hc hal)
            have HN := Kp.mk (hxC.keep (blk_keep (blk_keep HN.out hb) hal) (show ¬ b + 1 ≤ b by omega))
            have HB := Kp.mk (hbB.trans (hxC.toBelow (B := w.heap.size) (fun j hj e => by have := HSZ.out; omega) hbB.size))
            have HO := Kp.mk hoC
            have HG : Kp (GoodO o.id o.wh (E ++ [(12, cj, .int .u64 o.ms)]) ∧ 12 = (E ++ [(12, cj, Value.int .u64 o.ms)]).length) := ⟨HG.out.1.snoc (by decide) (by decide), by rw [List.length_append, ← HG.out.2]; rfl⟩
            simp only [optV] at hap ⊢
            have HAP := Kp.mk hap
            clear hc hb hal hbB hap hoC hxC d3
            go_wp2_with (first | (at_builtin; refine Lib.wpList_append_run _ rfl _ _ _ _ rfl _ _ rfl rfl _ _ HAP.out ?_))
            clear HAP
            generalize E ++ [(12, cj, Value.int .u64 o.ms)] = E at *
            generalize A' = A at *
            generalize cap' = cap at *
            go_ret
            exact ⟨optsEnd_of HO.out HG.out.1 HG.out.2 (by omega) (by omega), HB.out⟩

end Go.Proofs.YtgjocdnpephcgaaGreatDoor
