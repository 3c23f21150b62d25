/- Some texts in one: UvW, Uv. -/
import Derived.Test.YtkcpgcaccgahaaaGreatDoorBase
import Derived.Test.YtkcpgcaccgahaaaGreatDoorMathA
import Derived.Test.YtkcpgcaccgahaaaGreatDoorShelf
import Derived.Lib.EndianBits
namespace Go.Proofs.YtkcpgcaccgahaaaGreatDoor
open Go.RowKit

theorem ret_int {k : IntKind} {a b : Int} (h : a = b) : Ending.returned (.int k a) = .returned (.int k b) := by rw [h]




























/-- Cells of a new row of zeros, some of which have been written. -/
theorem put_new (w : World) (n : Nat) (bs : List UInt8) (e : TypeId) (h : bs.length ≤ n) (hn : n ≤ 9223372036854775807) :
    RdB ((w.alloc (.cells (zeros n) e)).setCells w.heap.size 0 (Lib.byteCells bs)) (some ⟨w.heap.size, 0, none⟩) bs.length n bs := by
  refine ⟨rfl, h, hn, fun _ => ⟨_, _, rfl, fun i hi => ?_⟩⟩
  rw [World.cell?_setCells_in w.heap.size (Lib.byteCells bs) 0 _ (fun j hj => ?_) i (by rw [Lib.byteCells_length]; exact hi)]
  · simp [Lib.byteCells]
  · rw [Lib.byteCells_length] at hj
    have hz := zeros_at n j (by omega)
    simp [World.cell?, World.alloc, -World.alloc_eq, hz]

theorem new_cells (w : World) (n : Nat) (e : TypeId) (j : Nat) (h : j < n) :
    ((w.alloc (.cells (zeros n) e)).cell? ⟨w.heap.size, 0 + j, none⟩).isSome = true ∧ (w.alloc (.cells (zeros n) e)).frozen? ⟨w.heap.size, 0 + j, none⟩ = false := by
  have hz := zeros_at n j h
  simp [World.cell?, World.frozen?, World.alloc, -World.alloc_eq, hz]

theorem bel_setCells {w : World} {g : Nat} (hg : w.heap.size ≤ g) : ∀ (vs : List Value) (o : Nat) {W : World}, Below w.heap.size w W → Below w.heap.size w (W.setCells g o vs)
  | [], _, _, h => h
  | _ :: r, o, _, h => bel_setCells hg r (o + 1) (h.setCell hg _)














































end Go.Proofs.YtkcpgcaccgahaaaGreatDoor
namespace Go.Proofs.YtkcpgcaccgahaaaGreatDoor
open Go.RowKit

/-- What a reader of a varint hands back: a number, how many bytes, an error or none. -/
def UvEnd (r : Option (Nat × Nat)) (e : Ending) : Prop :=
  match r with
  | some (x, n) => e = .returned (.tuple #[.int .u64 x, .int .i64 n, .nilIface])
  | none => ∃ T v, e = .returned (.tuple #[.int .u64 0, .int .i64 0, .iface T v])

/-- The three variables of package varint hold errors. -/
structure UvErrs (w : World) : Prop where
  over : ∃ T v, w.cell? ⟨6, 0, none⟩ = some (.iface T v)
  needless : ∃ T v, w.cell? ⟨7, 0, none⟩ = some (.iface T v)
  ends : ∃ T v, w.cell? ⟨8, 0, none⟩ = some (.iface T v)
theorem UvErrs.below {w w1 : World} (h : UvErrs w) (hb : Below w.heap.size w w1) : UvErrs w1 := by
  obtain ⟨⟨a, b, h1⟩, ⟨c, d, h2⟩, ⟨e, f, h3⟩⟩ := h
  exact ⟨⟨a, b, cell_bel hb h1⟩, ⟨c, d, cell_bel hb h2⟩, ⟨e, f, cell_bel hb h3⟩⟩

theorem u8_and127 (x : Int) (h₀ : 0 ≤ x) (h₁ : x < 256) : bits .and .u8 x 127 = x % 128 := bits_mask .u8 8 (by decide) wraps_u8 7 (by decide) x h₀ h₁

theorem pow7_dvd (k : Nat) (x : Nat) : ((x * 2 ^ (7 * k) : Nat) : Int) % 2 ^ (7 * k) = 0 := by
  have h : (2 : Int) ^ (7 * k) = ((2 ^ (7 * k) : Nat) : Int) := by simp
  rw [h, ← Int.natCast_emod, Nat.mul_mod_left]; rfl
theorem uv_or (acc b k : Nat) (hk : k ≤ 8) (hacc : acc < 2 ^ (7 * k)) (hb : b < 128) :
    bits .or .u64 (acc : Int) (IntKind.u64.wrap ((b : Int) * 2 ^ (7 * k))) = ((acc + b * 2 ^ (7 * k) : Nat) : Int) := by
  have e : ((b : Int) * 2 ^ (7 * k)) = ((b * 2 ^ (7 * k) : Nat) : Int) := by simp
  have h1 : b * 2 ^ (7 * k) ≤ 127 * 2 ^ (7 * k) := Nat.mul_le_mul_right _ (by omega)
  have h2 : 2 ^ (7 * k) ≤ 2 ^ 56 := Nat.pow_le_pow_right (by omega) (by omega)
  rw [e, u64_wrap_id _ (by omega) (by omega)]
  have e2 : (2 : Int) ^ (7 * k) = ((2 ^ (7 * k) : Nat) : Int) := by simp
  have h := bits_join_low .u64 64 (by decide) wraps_u64 (7 * k) (acc : Int) ((b * 2 ^ (7 * k) : Nat) : Int) (by omega) (by rw [e2]; omega) (by omega) (by omega) (pow7_dvd k b) (by omega)
  rw [h]; omega

theorem uvEnd_none {r : Option (Nat × Nat)} (h : r = none) {T : TypeId} {v : Value} : UvEnd r (.returned (.tuple #[.int .u64 0, .int .i64 0, .iface T v])) := by
  subst h; exact ⟨T, v, rfl⟩
theorem uvEnd_some {r : Option (Nat × Nat)} {x n : Nat} (h : r = some (x, n)) {X N : Int} (hx : X = (x : Int)) (hn : N = (n : Int)) : UvEnd r (.returned (.tuple #[.int .u64 X, .int .i64 N, .nilIface])) := by
  subst h hx hn; rfl

theorem uvF_over {k acc : Nat} {b : UInt8} {r : List UInt8} (h : (k = 8 ∧ 128 ≤ b.toNat) ∨ 9 ≤ k) : uvFrom k acc (b :: r) = none := by
  rw [uvFrom, if_pos h]
theorem uvF_zero {k acc : Nat} {b : UInt8} {r : List UInt8} (h : b.toNat = 0) (hk : 0 < k) (h9 : k < 9) : uvFrom k acc (b :: r) = none := by
  rw [uvFrom, if_neg (by omega), if_pos (by omega), if_pos ⟨h, hk⟩]
theorem uvF_last {k acc : Nat} {b : UInt8} {r : List UInt8} (hb : b.toNat < 128) (h : b.toNat ≠ 0 ∨ k = 0) (h9 : k < 9) : uvFrom k acc (b :: r) = some (acc + b.toNat * 2 ^ (7 * k), k + 1) := by
  rw [uvFrom, if_neg (by omega), if_pos hb, if_neg (by omega)]
theorem uvF_more {k acc : Nat} {b : UInt8} {r : List UInt8} (hb : 128 ≤ b.toNat) (h8 : k < 8) : uvFrom k acc (b :: r) = uvFrom (k + 1) (acc + (b.toNat % 128) * 2 ^ (7 * k)) r := by
  rw [uvFrom, if_neg (by omega), if_neg (by omega)]

theorem below_self_drewN (w : World) (n : Nat) : Below w.heap.size w (w.drewN n) := bel_drewN (Below.refl _ _) n

set_option maxHeartbeats 800000 in
set_option maxRecDepth 100000 in
/-- varint.FromUvarint. -/
theorem fromUv_calls (A : Option Addr) (n c : Nat) (bs : List UInt8) (w : World) (hr : RdB w A n c bs) (he : UvErrs w) :
    Calls Tryz.prog 108 #[.slice A n c] w fun e w' => UvEnd (uvRead bs) e ∧ Below w.heap.size w w' := by
  obtain ⟨⟨T1, v1, e1⟩, ⟨T2, v2, e2⟩, ⟨T3, v3, e3⟩⟩ := he
  have hlen := hr.len
  have hn : n ≤ 9223372036854775807 := Nat.le_trans hr.cap hr.most
  go_enter Tryz.func108, Tryz.ntmps108
  go_wp2
  go_loop [5, 6, 11] (fun vx vs vi => ∃ (k acc : Nat), k ≤ n ∧ k ≤ 9 ∧ acc < 2 ^ (7 * k) ∧ vx = .int .u64 acc ∧ vs = .int .u64 (7 * k : Nat) ∧ vi = .int .i64 k ∧ Kp (uvRead bs = uvFrom k acc (bs.drop k)))
    (fun _ _ vi => n - (intOf vi).toNat)
  case atStart => exact ⟨0, 0, by omega, by omega, by simp, rfl, rfl, rfl, ⟨rfl⟩⟩
  case round =>
    obtain ⟨k, acc, hk, hk9, hacc, rfl, rfl, rfl, hrest⟩ := hrel
    by_cases hlt : k < n
    · obtain ⟨g, o, rfl, hc⟩ := hr.lies (by omega)
      have hck := hc k (by omega)
      have hb := bs[k].toNat_lt
      have hdrop : bs.drop k = bs[k] :: bs.drop (k + 1) := List.drop_eq_getElem_cons (by omega)
      rw [hdrop] at hrest
      have HA := Kp.mk hacc
      generalize bs[k] = b at *
      clear hc hdrop hacc
      go_wp2
      · go_quiet (fail)
        go_wp2
        go_ret3
        exact ⟨uvEnd_none (by rw [hrest.out]; exact uvF_zero (by assumption) (by omega) (by omega)), below_self_drewN _ _⟩
      · go_ret3
        have h8 : k = 8 := by omega
        subst h8
        exact ⟨uvEnd_some (by rw [hrest.out]; exact uvF_last (by omega) (Or.inl (by assumption)) (by omega)) (by
          have h := uv_or acc b.toNat 8 (by omega) HA.out (by omega)
          rw [u64_wrap_id _ (by omega) (by omega)] at h
          exact h) rfl, Below.refl _ _⟩
      · go_quiet (fail)
        go_wp2
        go_ret3
        exact ⟨uvEnd_none (by rw [hrest.out]; exact uvF_over (Or.inl ⟨by omega, by omega⟩)), below_self_drewN _ _⟩
      · go_quiet (fail)
        go_wp2
        go_ret3
        exact ⟨uvEnd_none (by rw [hrest.out]; exact uvF_over (Or.inr (by omega))), below_self_drewN _ _⟩
      · go_quiet (fail)
        go_wp2
        go_ret3
        exact ⟨uvEnd_none (by rw [hrest.out]; exact uvF_zero (by assumption) (by omega) (by omega)), below_self_drewN _ _⟩
      · go_ret3
        have h8 : k = 0 := by omega
        subst h8
        have ha := HA.out
        have hz : b.toNat = 0 := by assumption
        exact ⟨uvEnd_some (by rw [hrest.out]; exact uvF_last (by omega) (Or.inr rfl) (by omega)) (by
          have h := uv_or acc b.toNat 0 (by omega) HA.out (by omega)
          rw [hz] at h ⊢
          exact h) rfl, Below.refl _ _⟩
      · go_ret3
        exact ⟨uvEnd_some (by rw [hrest.out]; exact uvF_last (by omega) (Or.inl (by assumption)) (by omega)) (uv_or acc b.toNat k (by omega) HA.out (by omega)) (by omega), Below.refl _ _⟩
      · go_round
        case rel =>
          have ho := uv_or acc (b.toNat % 128) k (by omega) HA.out (by omega)
          have hm : 2 ^ (7 * (k + 1)) = 128 * 2 ^ (7 * k) := by rw [show 7 * (k + 1) = 7 + 7 * k from by omega, Nat.pow_add]
          have h1 : (b.toNat % 128) * 2 ^ (7 * k) ≤ 127 * 2 ^ (7 * k) := Nat.mul_le_mul_right _ (by omega)
          have ha := HA.out
          refine ⟨k + 1, acc + (b.toNat % 128) * 2 ^ (7 * k), by omega, by omega, by rw [hm]; omega, ?_, by rw [show 7 * (k + 1) = 7 * k + 7 from by omega]; go_num, by go_num, ⟨by rw [hrest.out]; exact uvF_more (by omega) (by omega)⟩⟩
          rw [u8_and127 _ (by omega) (by omega), u64_wrap_id ((b.toNat : Int) % 128) (by omega) (by omega)]
          exact congrArg (Value.int .u64) ho
        case measure => simp [intOf]; omega
    · have hkn : k = n := by omega
      have hz : Kp (uvRead bs = none) := ⟨by rw [hrest.out, List.drop_of_length_le (by omega)]; rfl⟩
      clear hrest hacc
      go_wp2
      go_quiet (fail)
      go_wp2
      go_ret3
      exact ⟨uvEnd_none hz.out, below_self_drewN _ _⟩

/-- What impl.UvRead hands back. -/
def UvSays (r : Option (Nat × Nat)) (e : Ending) : Prop :=
  match r with
  | some (x, n) => e = .returned (.tuple #[.int .u64 x, .int .i64 n, .bool true])
  | none => ∃ x n, e = .returned (.tuple #[.int .u64 x, .int .i64 n, .bool false])

theorem uvSays_none {r : Option (Nat × Nat)} (h : r = none) {x n : Int} : UvSays r (.returned (.tuple #[.int .u64 x, .int .i64 n, .bool false])) := by
  subst h; exact ⟨x, n, rfl⟩
theorem uvSays_some {r : Option (Nat × Nat)} {x n : Nat} (h : r = some (x, n)) : UvSays r (.returned (.tuple #[.int .u64 x, .int .i64 n, .bool true])) := by
  subst h; rfl



















































end Go.Proofs.YtkcpgcaccgahaaaGreatDoor
