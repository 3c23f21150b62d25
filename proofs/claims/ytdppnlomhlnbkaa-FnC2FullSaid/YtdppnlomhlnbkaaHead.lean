/- The walks of the small functions about headers of version 2. -/
import Derived.Test.YtdppnlomhlnbkaaBase
namespace Go.Proofs.Ytdppnlomhlnbkaa
open Go.RowKit

/-- A header as a value, in impl's and spec's form, in car's form. -/
abbrev hdV (a b c d e : Int) : Value := .agg #[.int .u64 a, .int .u64 b, .int .u64 c, .int .u64 d, .int .u64 e]

set_option maxHeartbeats 800000 in
theorem headOut_calls (a b c d e : Int) (w : World) :
    Calls Try.prog 11 #[hdV a b c d e] w fun e' w' => e' = .returned (hdV a b c d e) ∧ Below w.heap.size w w' := by
  go_enter Try.func11, Try.ntmps11
  go_wp2
  exact bodyPost_ret (v := hdV a b c d e) (by simp [results, Try.results11, go_sem]) rfl ⟨rfl, bel_alloc (bel_alloc (Below.refl _ _) _) _⟩

set_option maxHeartbeats 800000 in
theorem headIn_calls (a b c d e : Int) (w : World) :
    Calls Try.prog 9 #[hdV a b c d e] w fun e' w' => e' = .returned (hdV a b c d e) ∧ Below w.heap.size w w' := by
  go_enter Try.func9, Try.ntmps9
  go_wp2
  exact bodyPost_ret (v := hdV a b c d e) (by simp [results, Try.results9, go_sem]) rfl ⟨rfl, bel_alloc (bel_alloc (Below.refl _ _) _) _⟩





































theorem set5 {w W : World} (h : Below w.heap.size w W) {u0 u1 u2 u3 u4 : Value} :
    Below w.heap.size w (((((W.setCell ⟨w.heap.size, 0, none⟩ u0).setCell ⟨w.heap.size, 1, none⟩ u1).setCell ⟨w.heap.size, 2, none⟩ u2).setCell ⟨w.heap.size, 3, none⟩ u3).setCell ⟨w.heap.size, 4, none⟩ u4) :=
  bel_set (bel_set (bel_set (bel_set (bel_set h (Nat.le_refl _) _) (Nat.le_refl _) _) (Nat.le_refl _) _) (Nat.le_refl _) _) (Nat.le_refl _) _
theorem set5' {w W : World} (h : Below w.heap.size w W) {u0 u1 u2 u3 u4 : Value} :
    Below w.heap.size w (((((W.setCell ⟨w.heap.size + 1, 0, none⟩ u0).setCell ⟨w.heap.size + 1, 1, none⟩ u1).setCell ⟨w.heap.size + 1, 2, none⟩ u2).setCell ⟨w.heap.size + 1, 3, none⟩ u3).setCell ⟨w.heap.size + 1, 4, none⟩ u4) :=
  bel_set (bel_set (bel_set (bel_set (bel_set h (Nat.le_succ _) _) (Nat.le_succ _) _) (Nat.le_succ _) _) (Nat.le_succ _) _) (Nat.le_succ _) _













































































end Go.Proofs.Ytdppnlomhlnbkaa
