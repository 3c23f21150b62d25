/- slices.Sort of one element: nothing happens. Printed by gen-sort1.py. -/
import Derived.Test.YtnhnkfdhkifahaaGreatDoorBase
import Derived.Test.YtnhnkfdhkifahaaGreatDoorShelf
namespace Go.Proofs.YtnhnkfdhkifahaaGreatDoor
open Go.RowKit

set_option maxRecDepth 100000 in
theorem ins1_uint32 (A : Option Addr) (c : Nat) (w : World) :
    Calls Tryz.prog 113 #[.slice A 1 c, .int .i64 0, .int .i64 1] w fun e w' => e = .returned (.tuple #[]) ∧ w' = w := by
  go_enter Tryz.func113, Tryz.ntmps113
  go_wp2_with fail
  refine wp_loop_rounds 1 ?_
  rw [rounds_succ]
  go_wp2_with fail
  (first | go_end0 | (simp only [Exit.inBlock, Exit.then]; refine bodyPost_ret (results_none rfl _ _ _) rfl ?_) | refine bodyPost_ret (results_none rfl _ _ _) rfl ?_)
  exact ⟨rfl, rfl⟩
set_option maxRecDepth 100000 in
theorem pdq1_uint32 (A : Option Addr) (c : Nat) (l : Int) (w : World) :
    Calls Tryz.prog 101 #[.slice A 1 c, .int .i64 0, .int .i64 1, .int .i64 l] w fun e w' => e = .returned (.tuple #[]) ∧ w' = w := by
  go_enter Tryz.func101, Tryz.ntmps101
  go_wp2_with fail
  refine wp_loop_rounds 1 ?_
  rw [rounds_succ]
  go_wp2_with fail
  refine (ins1_uint32 A c _).mono ?_
  rintro e w1 ⟨rfl, rfl⟩
  go_wp2_with fail
  (first | go_end0 | (simp only [Exit.inBlock, Exit.then]; refine bodyPost_ret (results_none rfl _ _ _) rfl ?_) | refine bodyPost_ret (results_none rfl _ _ _) rfl ?_)
  exact ⟨rfl, rfl⟩
set_option maxRecDepth 100000 in
theorem sort1_uint32 (A : Option Addr) (c : Nat) (w : World) :
    Calls Tryz.prog 81 #[.slice A 1 c] w fun e w' => e = .returned (.tuple #[]) ∧ w' = w := by
  go_enter Tryz.func81, Tryz.ntmps81
  go_wp2_with fail
  refine (Tryz.bits_Len 1 _ (by omega) (by omega)).mono ?_
  rintro e w1 ⟨rfl, rfl⟩
  go_wp2_with fail
  refine (pdq1_uint32 A c _ _).mono ?_
  rintro e w1 ⟨rfl, rfl⟩
  go_wp2_with fail
  (first | go_end0 | refine bodyPost_ret (results_none rfl _ _ _) rfl ?_)
  exact ⟨rfl, rfl⟩

set_option maxRecDepth 100000 in
theorem ins1_uint64 (A : Option Addr) (c : Nat) (w : World) :
    Calls Tryz.prog 92 #[.slice A 1 c, .int .i64 0, .int .i64 1] w fun e w' => e = .returned (.tuple #[]) ∧ w' = w := by
  go_enter Tryz.func92, Tryz.ntmps92
  go_wp2_with fail
  refine wp_loop_rounds 1 ?_
  rw [rounds_succ]
  go_wp2_with fail
  (first | go_end0 | (simp only [Exit.inBlock, Exit.then]; refine bodyPost_ret (results_none rfl _ _ _) rfl ?_) | refine bodyPost_ret (results_none rfl _ _ _) rfl ?_)
  exact ⟨rfl, rfl⟩
set_option maxRecDepth 100000 in
theorem pdq1_uint64 (A : Option Addr) (c : Nat) (l : Int) (w : World) :
    Calls Tryz.prog 80 #[.slice A 1 c, .int .i64 0, .int .i64 1, .int .i64 l] w fun e w' => e = .returned (.tuple #[]) ∧ w' = w := by
  go_enter Tryz.func80, Tryz.ntmps80
  go_wp2_with fail
  refine wp_loop_rounds 1 ?_
  rw [rounds_succ]
  go_wp2_with fail
  refine (ins1_uint64 A c _).mono ?_
  rintro e w1 ⟨rfl, rfl⟩
  go_wp2_with fail
  (first | go_end0 | (simp only [Exit.inBlock, Exit.then]; refine bodyPost_ret (results_none rfl _ _ _) rfl ?_) | refine bodyPost_ret (results_none rfl _ _ _) rfl ?_)
  exact ⟨rfl, rfl⟩
set_option maxRecDepth 100000 in
theorem sort1_uint64 (A : Option Addr) (c : Nat) (w : World) :
    Calls Tryz.prog 73 #[.slice A 1 c] w fun e w' => e = .returned (.tuple #[]) ∧ w' = w := by
  go_enter Tryz.func73, Tryz.ntmps73
  go_wp2_with fail
  refine (Tryz.bits_Len 1 _ (by omega) (by omega)).mono ?_
  rintro e w1 ⟨rfl, rfl⟩
  go_wp2_with fail
  refine (pdq1_uint64 A c _ _).mono ?_
  rintro e w1 ⟨rfl, rfl⟩
  go_wp2_with fail
  (first | go_end0 | refine bodyPost_ret (results_none rfl _ _ _) rfl ?_)
  exact ⟨rfl, rfl⟩

set_option maxRecDepth 100000 in
theorem setLen1_calls (A : Option Addr) (c : Nat) (w : World) :
    Calls Tryz.prog 146 #[.slice A 1 c] w fun e w' => e = .returned (.int .i64 1) ∧ Below w.heap.size w w' := by
  have HB0 := Kp.mk (fun o => bel_alloc (Below.refl w.heap.size w) o)
  go_enter Tryz.func146, Tryz.ntmps146
  go_wp2_with fail
  go_ret
  exact ⟨rfl, by first | exact HB0.out _ | exact Below.refl _ _⟩
set_option maxRecDepth 100000 in
/-- sort.Sort of a record set of one. -/
theorem sortSet1_calls (A : Option Addr) (c : Nat) (w : World) :
    Calls Tryz.prog 70 #[.iface 148 (.slice A 1 c)] w fun e w' => e = .returned (.tuple #[]) ∧ Below w.heap.size w w' := by
  have hm : ∀ W, (method 318 148 (.slice A 1 c) "Len").run Tryz.prog W = .ok (146, .slice A 1 c) W := fun _ => by kernel_rfl
  have HL := Kp.mk (setLen1_calls A c w)
  go_enter Tryz.func70, Tryz.ntmps70
  go_wp2_with fail
  refine HL.out.mono ?_
  rintro e w1 ⟨rfl, hb⟩
  have HB := Kp.mk hb
  clear hb HL
  go_wp2_with fail
  (first | go_end0 | (simp only [Exit.inBlock, Exit.then]; refine bodyPost_ret (results_none rfl _ _ _) rfl ?_) | refine bodyPost_ret (results_none rfl _ _ _) rfl ?_)
  exact ⟨rfl, HB.out⟩

end Go.Proofs.YtnhnkfdhkifahaaGreatDoor
