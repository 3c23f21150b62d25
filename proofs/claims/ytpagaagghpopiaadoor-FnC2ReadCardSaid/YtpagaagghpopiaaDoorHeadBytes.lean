/- The walk of the reference's HeadBytes. -/
import Derived.Test.YtpagaagghpopiaaDoorLittle
namespace Go.Proofs.YtpagaagghpopiaaDoor
open Go.RowKit

/-- Five numbers in block g. -/
def Hd5t (t : TypeId) (w : World) (g : Nat) (a b c d e : Nat) : Prop :=
  w.heap[g]? = some (.cells #[.int .u64 a, .int .u64 b, .int .u64 c, .int .u64 d, .int .u64 e] t (0, 0))
theorem le8_size (x : Nat) : (strB (Lib.leBytes 8 x)).size = 8 := by rw [strB_size, Lib.leBytes_length]
def hp1 (a b : Nat) : List UInt8 := Lib.leBytes 8 a ++ Lib.leBytes 8 b
def hp2 (a b c : Nat) : List UInt8 := hp1 a b ++ Lib.leBytes 8 c
def hp3 (a b c d : Nat) : List UInt8 := hp2 a b c ++ Lib.leBytes 8 d
/-- A header's 40 bytes. -/
def hdBytes (a b c d e : Nat) : List UInt8 := hp3 a b c d ++ Lib.leBytes 8 e

/-- What the operations leave. -/
def hbR (g a b c d e : Nat) (i : Nat) (v : Value) (_ : World) : Prop :=
  match i with
  | 0 => v = .pointer (some ⟨g, 0, none⟩)
  | 1 => v = .int .u64 a
  | 2 => v = .string (strB (Lib.leBytes 8 a))
  | 3 => v = .pointer (some ⟨g, 1, none⟩)
  | 4 => v = .int .u64 b
  | 5 => v = .string (strB (Lib.leBytes 8 b))
  | 6 => v = .string (strB (hp1 a b))
  | 7 => v = .pointer (some ⟨g, 2, none⟩)
  | 8 => v = .int .u64 c
  | 9 => v = .string (strB (Lib.leBytes 8 c))
  | 10 => v = .string (strB (hp2 a b c))
  | 11 => v = .pointer (some ⟨g, 3, none⟩)
  | 12 => v = .int .u64 d
  | 13 => v = .string (strB (Lib.leBytes 8 d))
  | 14 => v = .string (strB (hp3 a b c d))
  | 15 => v = .pointer (some ⟨g, 4, none⟩)
  | 16 => v = .int .u64 e
  | 17 => v = .string (strB (Lib.leBytes 8 e))
  | 18 => v = .string (strB (hdBytes a b c d e))
  | _ => True

set_option maxHeartbeats 8000000 in
set_option maxRecDepth 100000 in
/-- spec.HeadBytes. -/
theorem headBytes_calls (a b c d e : Nat) (w : World) (ha : a < 2 ^ 64) (hb : b < 2 ^ 64) (hc : c < 2 ^ 64) (hd : d < 2 ^ 64) (he : e < 2 ^ 64) :
    Calls Tryd.prog 10 #[.agg #[.int .u64 a, .int .u64 b, .int .u64 c, .int .u64 d, .int .u64 e]] w fun e' w' => e' = .returned (.string (strB (hdBytes a b c d e))) ∧ Below w.heap.size w w' := by
  have H0 := Kp.mk (fun w => little_calls a w ha)
  have H1 := Kp.mk (fun w => little_calls b w hb)
  have H2 := Kp.mk (fun w => little_calls c w hc)
  have H3 := Kp.mk (fun w => little_calls d w hd)
  have H4 := Kp.mk (fun w => little_calls e w he)
  have hc1 : (strB (Lib.leBytes 8 a)).size + (strB (Lib.leBytes 8 b)).size ≤ 9223372036854775807 := by simp [strB_size, Lib.leBytes_length]
  have ha1 : Kp (strB (Lib.leBytes 8 a) ++ strB (Lib.leBytes 8 b) = strB (hp1 a b)) := ⟨strB_append (Lib.leBytes 8 a) (Lib.leBytes 8 b)⟩
  have hc2 : (strB (hp1 a b)).size + (strB (Lib.leBytes 8 c)).size ≤ 9223372036854775807 := by simp [strB_size, Lib.leBytes_length, hp1]
  have ha2 : Kp (strB (hp1 a b) ++ strB (Lib.leBytes 8 c) = strB (hp2 a b c)) := ⟨strB_append (hp1 a b) (Lib.leBytes 8 c)⟩
  have hc3 : (strB (hp2 a b c)).size + (strB (Lib.leBytes 8 d)).size ≤ 9223372036854775807 := by simp [strB_size, Lib.leBytes_length, hp1, hp2]
  have ha3 : Kp (strB (hp2 a b c) ++ strB (Lib.leBytes 8 d) = strB (hp3 a b c d)) := ⟨strB_append (hp2 a b c) (Lib.leBytes 8 d)⟩
  have hc4 : (strB (hp3 a b c d)).size + (strB (Lib.leBytes 8 e)).size ≤ 9223372036854775807 := by simp [strB_size, Lib.leBytes_length, hp1, hp2, hp3]
  have ha4 : Kp (strB (hp3 a b c d) ++ strB (Lib.leBytes 8 e) = strB (hdBytes a b c d e)) := ⟨strB_append (hp3 a b c d) (Lib.leBytes 8 e)⟩
  clear ha hb hc hd he
  go_enter Tryd.func10, Tryd.ntmps10
  go_wp2_with fail
  generalize hW : w.alloc _ = W
  have HG : Kp (Hd5t 24 W w.heap.size a b c d e) := ⟨by rw [← hW]; simp [Hd5t, World.alloc, -World.alloc_eq]⟩
  have HBW : Kp (Below w.heap.size w W) := ⟨by rw [← hW]; exact bel_alloc (Below.refl _ _) _⟩
  generalize w.heap.size = g at HG ⊢
  clear hW
  refine wp_region_grow (by kernel_rfl) 19 (by decide) (apart_of (by kernel_rfl)) (by kernel_rfl) (hbR g a b c d e) (fun _ _ _ _ => True) (fun _ _ _ _ h _ => by unfold hbR at *; exact h) ?_ ?_
  · intro i hi o ho vs w2 hb hpre
    rcases i with _ | _ | _ | _ | _ | _ | _ | _ | _ | _ | _ | _ | _ | _ | _ | _ | _ | _ | _ | i
    · obtain rfl := Option.some.inj ho
      simp only [canon, List.range, List.range.loop, List.foldl]
      go_simp
      exact ⟨rfl, Below.refl _ _⟩
    · obtain rfl := Option.some.inj ho
      have e0 : vs 0 = _ := hpre 0 (by decide) rfl
      have hc := blk_keep HG.out (bel_then (bel_drew (Below.refl _ _)) hb)
      have c0 := blk_cell hc 0
      simp only [canon, List.range, List.range.loop, List.foldl]
      go_simp
      exact ⟨rfl, Below.refl _ _⟩
    · obtain rfl := Option.some.inj ho
      have e1 : vs 1 = _ := hpre 1 (by decide) rfl
      simp only [canon, List.range, List.range.loop, List.foldl]
      go_simp
      refine (H0.out w2).mono ?_
      rintro e w3 ⟨rfl, hb3⟩
      exact ⟨rfl, hb3⟩
    · obtain rfl := Option.some.inj ho
      simp only [canon, List.range, List.range.loop, List.foldl]
      go_simp
      exact ⟨rfl, Below.refl _ _⟩
    · obtain rfl := Option.some.inj ho
      have e3 : vs 3 = _ := hpre 3 (by decide) rfl
      have hc := blk_keep HG.out (bel_then (bel_drew (Below.refl _ _)) hb)
      have c1 := blk_cell hc 1
      simp only [canon, List.range, List.range.loop, List.foldl]
      go_simp
      exact ⟨rfl, Below.refl _ _⟩
    · obtain rfl := Option.some.inj ho
      have e4 : vs 4 = _ := hpre 4 (by decide) rfl
      simp only [canon, List.range, List.range.loop, List.foldl]
      go_simp
      refine (H1.out w2).mono ?_
      rintro e w3 ⟨rfl, hb3⟩
      exact ⟨rfl, hb3⟩
    · obtain rfl := Option.some.inj ho
      have e2 : vs 2 = _ := hpre 2 (by decide) rfl
      have e5 : vs 5 = _ := hpre 5 (by decide) rfl
      simp only [canon, List.range, List.range.loop, List.foldl]
      go_simp
      rw [if_neg (Nat.not_lt.2 hc1)]
      refine ⟨_, rfl, ?_, Below.refl _ _⟩
      show _ = _
      rw [← ha1.out]
    · obtain rfl := Option.some.inj ho
      simp only [canon, List.range, List.range.loop, List.foldl]
      go_simp
      exact ⟨rfl, Below.refl _ _⟩
    · obtain rfl := Option.some.inj ho
      have e7 : vs 7 = _ := hpre 7 (by decide) rfl
      have hc := blk_keep HG.out (bel_then (bel_drew (Below.refl _ _)) hb)
      have c2 := blk_cell hc 2
      simp only [canon, List.range, List.range.loop, List.foldl]
      go_simp
      exact ⟨rfl, Below.refl _ _⟩
    · obtain rfl := Option.some.inj ho
      have e8 : vs 8 = _ := hpre 8 (by decide) rfl
      simp only [canon, List.range, List.range.loop, List.foldl]
      go_simp
      refine (H2.out w2).mono ?_
      rintro e w3 ⟨rfl, hb3⟩
      exact ⟨rfl, hb3⟩
    · obtain rfl := Option.some.inj ho
      have e6 : vs 6 = _ := hpre 6 (by decide) rfl
      have e9 : vs 9 = _ := hpre 9 (by decide) rfl
      simp only [canon, List.range, List.range.loop, List.foldl]
      go_simp
      rw [if_neg (Nat.not_lt.2 hc2)]
      refine ⟨_, rfl, ?_, Below.refl _ _⟩
      show _ = _
      rw [← ha2.out]
    · obtain rfl := Option.some.inj ho
      simp only [canon, List.range, List.range.loop, List.foldl]
      go_simp
      exact ⟨rfl, Below.refl _ _⟩
    · obtain rfl := Option.some.inj ho
      have e11 : vs 11 = _ := hpre 11 (by decide) rfl
      have hc := blk_keep HG.out (bel_then (bel_drew (Below.refl _ _)) hb)
      have c3 := blk_cell hc 3
      simp only [canon, List.range, List.range.loop, List.foldl]
      go_simp
      exact ⟨rfl, Below.refl _ _⟩
    · obtain rfl := Option.some.inj ho
      have e12 : vs 12 = _ := hpre 12 (by decide) rfl
      simp only [canon, List.range, List.range.loop, List.foldl]
      go_simp
      refine (H3.out w2).mono ?_
      rintro e w3 ⟨rfl, hb3⟩
      exact ⟨rfl, hb3⟩
    · obtain rfl := Option.some.inj ho
      have e10 : vs 10 = _ := hpre 10 (by decide) rfl
      have e13 : vs 13 = _ := hpre 13 (by decide) rfl
      simp only [canon, List.range, List.range.loop, List.foldl]
      go_simp
      rw [if_neg (Nat.not_lt.2 hc3)]
      refine ⟨_, rfl, ?_, Below.refl _ _⟩
      show _ = _
      rw [← ha3.out]
    · obtain rfl := Option.some.inj ho
      simp only [canon, List.range, List.range.loop, List.foldl]
      go_simp
      exact ⟨rfl, Below.refl _ _⟩
    · obtain rfl := Option.some.inj ho
      have e15 : vs 15 = _ := hpre 15 (by decide) rfl
      have hc := blk_keep HG.out (bel_then (bel_drew (Below.refl _ _)) hb)
      have c4 := blk_cell hc 4
      simp only [canon, List.range, List.range.loop, List.foldl]
      go_simp
      exact ⟨rfl, Below.refl _ _⟩
    · obtain rfl := Option.some.inj ho
      have e16 : vs 16 = _ := hpre 16 (by decide) rfl
      simp only [canon, List.range, List.range.loop, List.foldl]
      go_simp
      refine (H4.out w2).mono ?_
      rintro e w3 ⟨rfl, hb3⟩
      exact ⟨rfl, hb3⟩
    · obtain rfl := Option.some.inj ho
      have e14 : vs 14 = _ := hpre 14 (by decide) rfl
      have e17 : vs 17 = _ := hpre 17 (by decide) rfl
      simp only [canon, List.range, List.range.loop, List.foldl]
      go_simp
      rw [if_neg (Nat.not_lt.2 hc4)]
      refine ⟨_, rfl, ?_, Below.refl _ _⟩
      show _ = _
      rw [← ha4.out]
    · omega
  · intro vs w2 hb hr hd
    have e18 : vs 18 = _ := hr 18 (by omega)
    have HB := Kp.mk (bel_then HBW.out (bel_then (bel_drew (Below.refl W.heap.size W)) hb))
    simp only [canon, List.range, List.range.loop, List.foldl]
    refine wpAny_last 19 (by kernel_rfl) ?_
    refine wpOp_go rfl rfl ?_
    go_simp
    refine wpAny_none (by kernel_rfl) ?_ _
    go_wp2_with fail
    go_ret
    exact ⟨rfl, HB.out⟩

end Go.Proofs.YtpagaagghpopiaaDoor
