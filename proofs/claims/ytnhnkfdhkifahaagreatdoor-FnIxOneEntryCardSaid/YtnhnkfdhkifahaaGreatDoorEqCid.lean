/- '==' on identifiers. -/
import Derived.Test.YtnhnkfdhkifahaaGreatDoorBase
namespace Go.Proofs.YtnhnkfdhkifahaaGreatDoor
open Go.RowKit

theorem bytes_eql2 (a b : ByteArray) : (a.toList == b.toList) = decide (a = b) := by
  by_cases h : a = b
  · subst h; simp
  · rw [decide_eq_false h, beq_eq_false_iff_ne]
    intro e
    rw [ByteArray.toList_eq, ByteArray.toList_eq] at e
    exact h (by cases a; cases b; simp at e; rw [e])
set_option maxRecDepth 100000 in
theorem eqCid (a b c : Nat) (s : ByteArray) (a' b' c' : Nat) (s' : ByteArray) (w : World) :
    (Op.equalIn 10000 24 (.agg #[.int .u64 a, .int .u64 b, .int .u64 c, .string s]) (.agg #[.int .u64 a', .int .u64 b', .int .u64 c', .string s'])).run Tryz.prog w = .ok (decide (a = a' ∧ b = b' ∧ c = c' ∧ s = s')) w := by
  have u3 := Tryz.underlying22
  have a3 := Tryz.isAgg22
  have z3 := Tryz.sizeOf22
  have u9 := Tryz.underlying9
  have a9 := Tryz.isAgg9
  have z9 := Tryz.sizeOf9
  have hq := bytes_eql2 s s'
  have hS : Tryz.prog.underlying 24 = some (.struct (Tryz.prog.fieldsOf 24)) := by kernel_rfl
  have hp : Tryz.prog.stoodInHeld 24 = false := by kernel_rfl
  rw [show (10000 : Nat) = 9999 + 1 from rfl, run_equalIn_agg w 9999 24 _ _ hS hp]
  simp only [Program.fieldsOf, Tryz.underlying24]
  go_simp
  by_cases h1 : a = a' <;> by_cases h2 : b = b' <;> by_cases h3 : c = c' <;> by_cases h4 : s = s' <;> simp [h1, h2, h3, h4] <;> (try (intros; omega))


end Go.Proofs.YtnhnkfdhkifahaaGreatDoor
