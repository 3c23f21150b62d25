/- Some texts in one: Little, HeadBytes. -/
import Derived.Test.YtkcpgcaccgahaaaGreatDoorMhEnc
import Derived.Test.YtkcpgcaccgahaaaGreatDoorGrowA
import Derived.Handy
import Derived.Lib.Endian
namespace Go.Proofs.YtkcpgcaccgahaaaGreatDoor
open Go.RowKit

theorem strB_append (a b : List UInt8) : strB a ++ strB b = strB (a ++ b) := by
  apply ByteArray.ext; simp [strB, ByteArray.data_append]
/-- The eight bytes of a number as they are stored. -/
def le8 (x : Nat) : Array Value := #[.int .u8 ((x : Int) % 256), .int .u8 ((x : Int) / 256 % 256), .int .u8 ((x : Int) / 65536 % 256), .int .u8 ((x : Int) / 16777216 % 256), .int .u8 ((x : Int) / 4294967296 % 256), .int .u8 ((x : Int) / 1099511627776 % 256), .int .u8 ((x : Int) / 281474976710656 % 256), .int .u8 ((x : Int) / 72057594037927936 % 256)]
theorem leBytes8 (x : Nat) : Lib.leBytes 8 x = [(x % 256).toUInt8, (x / 256 % 256).toUInt8, (x / 65536 % 256).toUInt8, (x / 16777216 % 256).toUInt8, (x / 4294967296 % 256).toUInt8, (x / 1099511627776 % 256).toUInt8, (x / 281474976710656 % 256).toUInt8, (x / 72057594037927936 % 256).toUInt8] := by
  simp [Lib.leBytes, Nat.div_div_eq_div_mul]
theorem rd_le8 (w : World) (x : Nat) (t : TypeId) : RdB (w.alloc (.cells (le8 x) t)) (some ⟨w.heap.size, 0, none⟩) 8 8 (Lib.leBytes 8 x) := by
  rw [leBytes8]
  refine ⟨rfl, Nat.le_refl _, by omega, fun _ => ⟨_, _, rfl, fun i hi => ?_⟩⟩
  rw [blk_cell (g := w.heap.size) (t := t) (cs := le8 x) (by simp [World.alloc, -World.alloc_eq])]
  match i, hi with
  | 0, _ => simp only [le8]; rw [List.getElem_cons_zero, Lib.toUInt8_mod]; rfl
  | 1, _ => simp only [le8, List.getElem_cons_succ, List.getElem_cons_zero, Lib.toUInt8_mod]; rfl
  | 2, _ => simp only [le8, List.getElem_cons_succ, List.getElem_cons_zero, Lib.toUInt8_mod]; rfl
  | 3, _ => simp only [le8, List.getElem_cons_succ, List.getElem_cons_zero, Lib.toUInt8_mod]; rfl
  | 4, _ => simp only [le8, List.getElem_cons_succ, List.getElem_cons_zero, Lib.toUInt8_mod]; rfl
  | 5, _ => simp only [le8, List.getElem_cons_succ, List.getElem_cons_zero, Lib.toUInt8_mod]; rfl
  | 6, _ => simp only [le8, List.getElem_cons_succ, List.getElem_cons_zero, Lib.toUInt8_mod]; rfl
  | 7, _ => simp only [le8, List.getElem_cons_succ, List.getElem_cons_zero, Lib.toUInt8_mod]; rfl

set_option maxHeartbeats 4000000 in
set_option maxRecDepth 100000 in
/-- spec.little. -/
theorem little_calls (x : Nat) (w : World) (hx : x < 2 ^ 64) :
    Calls Tryz.prog 25 #[.int .u64 x] w fun e w' => e = .returned (.string (strB (Lib.leBytes 8 x))) ∧ Below w.heap.size w w' := by
  have hcv := rd_string (rd_le8 w x 113) 67 9 Tryz.underlying67 Tryz.underlying9
  unfold le8 at hcv
  have HX := Kp.mk hx
  clear hx
  go_enter Tryz.func25, Tryz.ntmps25
  go_wp2
  go_rounds 9
  go_wp2
  go_ret
  exact ⟨rfl, bel_alloc (Below.refl _ _) _⟩

end Go.Proofs.YtkcpgcaccgahaaaGreatDoor
namespace Go.Proofs.YtkcpgcaccgahaaaGreatDoor
open Go.RowKit

/-- Five numbers in block g. -/
def Hd5t (t : TypeId) (w : World) (g : Nat) (a b c d e : Nat) : Prop :=
  w.heap[g]? = some (.cells #[.int .u64 a, .int .u64 b, .int .u64 c, .int .u64 d, .int .u64 e] t (0, 0))
theorem le8_size (x : Nat) : (strB (Lib.leBytes 8 x)).size = 8 := by rw [strB_size, Lib.leBytes_length]
def hp1 (a b : Nat) : List UInt8 := Lib.leBytes 8 a ++ Lib.leBytes 8 b
def hp2 (a b c : Nat) : List UInt8 := hp1 a b ++ Lib.leBytes 8 c
def hp3 (a b c d : Nat) : List UInt8 := hp2 a b c ++ Lib.leBytes 8 d
/-- A header's 40 bytes. -/
def hdBytes (a b c d e : Nat) : List UInt8 := hp3 a b c d ++ Lib.leBytes 8 e

/-- What the operations leave. -/
def hbR (g a b c d e : Nat) (i : Nat) (v : Value) (_ : World) : Prop :=
  match i with
  | 0 => v = .pointer (some ⟨g, 0, none⟩)
  | 1 => v = .int .u64 a
  | 2 => v = .string (strB (Lib.leBytes 8 a))
  | 3 => v = .pointer (some ⟨g, 1, none⟩)
  | 4 => v = .int .u64 b
  | 5 => v = .string (strB (Lib.leBytes 8 b))
  | 6 => v = .string (strB (hp1 a b))
  | 7 => v = .pointer (some ⟨g, 2, none⟩)
  | 8 => v = .int .u64 c
  | 9 => v = .string (strB (Lib.leBytes 8 c))
  | 10 => v = .string (strB (hp2 a b c))
  | 11 => v = .pointer (some ⟨g, 3, none⟩)
  | 12 => v = .int .u64 d
  | 13 => v = .string (strB (Lib.leBytes 8 d))
  | 14 => v = .string (strB (hp3 a b c d))
  | 15 => v = .pointer (some ⟨g, 4, none⟩)
  | 16 => v = .int .u64 e
  | 17 => v = .string (strB (Lib.leBytes 8 e))
  | 18 => v = .string (strB (hdBytes a b c d e))
  | _ => True

set_option maxHeartbeats 8000000 in
set_option maxRecDepth 100000 in
/-- spec.HeadBytes. -/
theorem headBytes_calls (a b c d e : Nat) (w : World) (ha : a < 2 ^ 64) (hb : b < 2 ^ 64) (hc : c < 2 ^ 64) (hd : d < 2 ^ 64) (he : e < 2 ^ 64) :
    Calls Tryz.prog 7 #[.agg #[.int .u64 a, .int .u64 b, .int .u64 c, .int .u64 d, .int .u64 e]] w fun e' w' => e' = .returned (.string (strB (hdBytes a b c d e))) ∧ Below w.heap.size w w' := by
  have H0 := Kp.mk (fun w => little_calls a w ha)
  have H1 := Kp.mk (fun w => little_calls b w hb)
  have H2 := Kp.mk (fun w => little_calls c w hc)
  have H3 := Kp.mk (fun w => little_calls d w hd)
  have H4 := Kp.mk (fun w => little_calls e w he)
  have hc1 : (strB (Lib.leBytes 8 a)).size + (strB (Lib.leBytes 8 b)).size ≤ 9223372036854775807 := by simp [strB_size, Lib.leBytes_length]
  have ha1 : Kp (strB (Lib.leBytes 8 a) ++ strB (Lib.leBytes 8 b) = strB (hp1 a b)) := ⟨strB_append (Lib.leBytes 8 a) (Lib.leBytes 8 b)⟩
  have hc2 : (strB (hp1 a b)).size + (strB (Lib.leBytes 8 c)).size ≤ 9223372036854775807 := by simp [strB_size, Lib.leBytes_length, hp1]
  have ha2 : Kp (strB (hp1 a b) ++ strB (Lib.leBytes 8 c) = strB (hp2 a b c)) := ⟨strB_append (hp1 a b) (Lib.leBytes 8 c)⟩
  have hc3 : (strB (hp2 a b c)).size + (strB (Lib.leBytes 8 d)).size ≤ 9223372036854775807 := by simp [strB_size, Lib.leBytes_length, hp1, hp2]
  have ha3 : Kp (strB (hp2 a b c) ++ strB (Lib.leBytes 8 d) = strB (hp3 a b c d)) := ⟨strB_append (hp2 a b c) (Lib.leBytes 8 d)⟩
  have hc4 : (strB (hp3 a b c d)).size + (strB (Lib.leBytes 8 e)).size ≤ 9223372036854775807 := by simp [strB_size, Lib.leBytes_length, hp1, hp2, hp3]
  have ha4 : Kp (strB (hp3 a b c d) ++ strB (Lib.leBytes 8 e) = strB (hdBytes a b c d e)) := ⟨strB_append (hp3 a b c d) (Lib.leBytes 8 e)⟩
  clear ha hb hc hd he
  go_enter Tryz.func7, Tryz.ntmps7
  go_wp2_with fail
  generalize hW : w.alloc _ = W
  have HG : Kp (Hd5t 24 W w.heap.size a b c d e) := ⟨by rw [← hW]; simp [Hd5t, World.alloc, -World.alloc_eq]⟩
  have HBW : Kp (Below w.heap.size w W) := ⟨by rw [← hW]; exact bel_alloc (Below.refl _ _) _⟩
  generalize w.heap.size = g at HG ⊢
  clear hW
  refine wp_region_grow (by kernel_rfl) 19 (by decide) (apart_of (by kernel_rfl)) (by kernel_rfl) (hbR g a b c d e) (fun _ _ _ _ => True) (fun _ _ _ _ h _ => by unfold hbR at *; exact h) ?_ ?_
  · intro i hi o ho vs w2 hb hpre
    rcases i with _ | _ | _ | _ | _ | _ | _ | _ | _ | _ | _ | _ | _ | _ | _ | _ | _ | _ | _ | i
    · obtain rfl := Option.some.inj ho
      simp only [canon, List.range, List.range.loop, List.foldl]
      go_simp
      exact ⟨rfl, Below.refl _ _⟩
    · obtain rfl := Option.some.inj ho
      have e0 : vs 0 = _ := hpre 0 (by decide) rfl
      have hc := blk_keep HG.out (bel_then (bel_drew (Below.refl _ _)) hb)
      have c0 := blk_cell hc 0
      simp only [canon, List.range, List.range.loop, List.foldl]
      go_simp
      exact ⟨rfl, Below.refl _ _⟩
    · obtain rfl := Option.some.inj ho
      have e1 : vs 1 = _ := hpre 1 (by decide) rfl
      simp only [canon, List.range, List.range.loop, List.foldl]
      go_simp
      refine (H0.out w2).mono ?_
      rintro e w3 ⟨rfl, hb3⟩
      exact ⟨rfl, hb3⟩
    · obtain rfl := Option.some.inj ho
      simp only [canon, List.range, List.range.loop, List.foldl]
      go_simp
      exact ⟨rfl, Below.refl _ _⟩
    · obtain rfl := Option.some.inj ho
      have e3 : vs 3 = _ := hpre 3 (by decide) rfl
      have hc := blk_keep HG.out (bel_then (bel_drew (Below.refl _ _)) hb)
      have c1 := blk_cell hc 1
      simp only [canon, List.range, List.range.loop, List.foldl]
      go_simp
      exact ⟨rfl, Below.refl _ _⟩
    · obtain rfl := Option.some.inj ho
      have e4 : vs 4 = _ := hpre 4 (by decide) rfl
      simp only [canon, List.range, List.range.loop, List.foldl]
      go_simp
      refine (H1.out w2).mono ?_
      rintro e w3 ⟨rfl, hb3⟩
      exact ⟨rfl, hb3⟩
    · obtain rfl := Option.some.inj ho
      have e2 : vs 2 = _ := hpre 2 (by decide) rfl
      have e5 : vs 5 = _ := hpre 5 (by decide) rfl
      simp only [canon, List.range, List.range.loop, List.foldl]
      go_simp
      rw [if_neg (Nat.not_lt.2 hc1)]
      refine ⟨_, rfl, ?_, Below.refl _ _⟩
      show _ = _
      rw [← ha1.out]
    · obtain rfl := Option.some.inj ho
      simp only [canon, List.range, List.range.loop, List.foldl]
      go_simp
      exact ⟨rfl, Below.refl _ _⟩
    · obtain rfl := Option.some.inj ho
      have e7 : vs 7 = _ := hpre 7 (by decide) rfl
      have hc := blk_keep HG.out (bel_then (bel_drew (Below.refl _ _)) hb)
      have c2 := blk_cell hc 2
      simp only [canon, List.range, List.range.loop, List.foldl]
      go_simp
      exact ⟨rfl, Below.refl _ _⟩
    · obtain rfl := Option.some.inj ho
      have e8 : vs 8 = _ := hpre 8 (by decide) rfl
      simp only [canon, List.range, List.range.loop, List.foldl]
      go_simp
      refine (H2.out w2).mono ?_
      rintro e w3 ⟨rfl, hb3⟩
      exact ⟨rfl, hb3⟩
    · obtain rfl := Option.some.inj ho
      have e6 : vs 6 = _ := hpre 6 (by decide) rfl
      have e9 : vs 9 = _ := hpre 9 (by decide) rfl
      simp only [canon, List.range, List.range.loop, List.foldl]
      go_simp
      rw [if_neg (Nat.not_lt.2 hc2)]
      refine ⟨_, rfl, ?_, Below.refl _ _⟩
      show _ = _
      rw [← ha2.out]
    · obtain rfl := Option.some.inj ho
      simp only [canon, List.range, List.range.loop, List.foldl]
      go_simp
      exact ⟨rfl, Below.refl _ _⟩
    · obtain rfl := Option.some.inj ho
      have e11 : vs 11 = _ := hpre 11 (by decide) rfl
      have hc := blk_keep HG.out (bel_then (bel_drew (Below.refl _ _)) hb)
      have c3 := blk_cell hc 3
      simp only [canon, List.range, List.range.loop, List.foldl]
      go_simp
      exact ⟨rfl, Below.refl _ _⟩
    · obtain rfl := Option.some.inj ho
      have e12 : vs 12 = _ := hpre 12 (by decide) rfl
      simp only [canon, List.range, List.range.loop, List.foldl]
      go_simp
      refine (H3.out w2).mono ?_
      rintro e w3 ⟨rfl, hb3⟩
      exact ⟨rfl, hb3⟩
    · obtain rfl := Option.some.inj ho
      have e10 : vs 10 = _ := hpre 10 (by decide) rfl
      have e13 : vs 13 = _ := hpre 13 (by decide) rfl
      simp only [canon, List.range, List.range.loop, List.foldl]
      go_simp
      rw [if_neg (Nat.not_lt.2 hc3)]
      refine ⟨_, rfl, ?_, Below.refl _ _⟩
      show _ = _
      rw [← ha3.out]
    · obtain rfl := Option.some.inj ho
      simp only [canon, List.range, List.range.loop, List.foldl]
      go_simp
      exact ⟨rfl, Below.refl _ _⟩
    · obtain rfl := Option.some.inj ho
      have e15 : vs 15 = _ := hpre 15 (by decide) rfl
      have hc := blk_keep HG.out (bel_then (bel_drew (Below.refl _ _)) hb)
      have c4 := blk_cell hc 4
      simp only [canon, List.range, List.range.loop, List.foldl]
      go_simp
      exact ⟨rfl, Below.refl _ _⟩
    · obtain rfl := Option.some.inj ho
      have e16 : vs 16 = _ := hpre 16 (by decide) rfl
      simp only [canon, List.range, List.range.loop, List.foldl]
      go_simp
      refine (H4.out w2).mono ?_
      rintro e w3 ⟨rfl, hb3⟩
      exact ⟨rfl, hb3⟩
    · obtain rfl := Option.some.inj ho
      have e14 : vs 14 = _ := hpre 14 (by decide) rfl
      have e17 : vs 17 = _ := hpre 17 (by decide) rfl
      simp only [canon, List.range, List.range.loop, List.foldl]
      go_simp
      rw [if_neg (Nat.not_lt.2 hc4)]
      refine ⟨_, rfl, ?_, Below.refl _ _⟩
      show _ = _
      rw [← ha4.out]
    · omega
  · intro vs w2 hb hr hd
    have e18 : vs 18 = _ := hr 18 (by omega)
    have HB := Kp.mk (bel_then HBW.out (bel_then (bel_drew (Below.refl W.heap.size W)) hb))
    simp only [canon, List.range, List.range.loop, List.foldl]
    refine wpAny_last 19 (by kernel_rfl) ?_
    refine wpOp_go rfl rfl ?_
    go_simp
    refine wpAny_none (by kernel_rfl) ?_ _
    go_wp2_with fail
    go_ret
    exact ⟨rfl, HB.out⟩

end Go.Proofs.YtkcpgcaccgahaaaGreatDoor
