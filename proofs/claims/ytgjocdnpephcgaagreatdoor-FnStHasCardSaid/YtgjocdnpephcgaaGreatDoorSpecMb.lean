/- The walk of the reference's MultihashBytes. -/
import Derived.Test.YtgjocdnpephcgaaGreatDoorSpecW
import Derived.Test.YtgjocdnpephcgaaGreatDoorGrowA
namespace Go.Proofs.YtgjocdnpephcgaaGreatDoor
open Go.RowKit

/-- What the operations leave. -/
def mbR (x : Nat) (s : ByteArray) (i : Nat) (v : Value) (w : World) : Prop :=
  match i with
  | 0 => v = .int .u64 x
  | 1 => ∃ g c, v = .slice (some ⟨g, 0, none⟩) (Lib.uvarint x).length c ∧ RdB w (some ⟨g, 0, none⟩) (Lib.uvarint x).length c (Lib.uvarint x)
  | 2 => v = .string (strB (Lib.uvarint x))
  | 3 => v = .string s
  | 4 => v = .int .i64 s.size
  | 5 => v = .int .u64 s.size
  | 6 => ∃ g c, v = .slice (some ⟨g, 0, none⟩) (Lib.uvarint s.size).length c ∧ RdB w (some ⟨g, 0, none⟩) (Lib.uvarint s.size).length c (Lib.uvarint s.size)
  | 7 => v = .string (strB (Lib.uvarint s.size))
  | 8 => v = .string (strB (Lib.uvarint x ++ Lib.uvarint s.size))
  | 9 => v = .string s
  | 10 => v = .string (strB (mhBytes x (bl s)))
  | _ => True
theorem mbR_below (x : Nat) (s : ByteArray) (i : Nat) (v : Value) (w w' : World) (h : mbR x s i v w) (hb : Below w.heap.size w w') : mbR x s i v w' := by
  unfold mbR at *
  split at h <;> first | exact h | (obtain ⟨g, c, e, hh⟩ := h; exact ⟨g, c, e, hh.below hb⟩)
theorem strB_append (a b : List UInt8) : strB a ++ strB b = strB (a ++ b) := by
  apply ByteArray.ext; simp [strB, ByteArray.data_append]

set_option maxHeartbeats 4000000 in
set_option maxRecDepth 100000 in
/-- spec.MultihashBytes. -/
theorem specMb_calls (x : Nat) (s : ByteArray) (w : World) (hx : x < 2 ^ 64) (hs : s.size ≤ 9223372036854775000) :
    Calls Tryz.prog 21 #[.int .u64 x, .string s] w fun e w' => e = .returned (.string (strB (mhBytes x (bl s)))) ∧ Below w.heap.size w w' := by
  have HV1 := Kp.mk (fun w => specVarint_calls x w hx)
  have HV2 := Kp.mk (fun w => specVarint_calls s.size w (by omega))
  have hl1 := Lib.uvarint_length64 (x := x) (by omega)
  have hl2 := Lib.uvarint_length64 (x := s.size) (by omega)
  have hc1 : (strB (Lib.uvarint x)).size + (strB (Lib.uvarint s.size)).size ≤ 9223372036854775807 := by rw [strB_size, strB_size]; omega
  have hc2 : (strB (Lib.uvarint x ++ Lib.uvarint s.size)).size + s.size ≤ 9223372036854775807 := by rw [strB_size, List.length_append]; omega
  have ha1 := Kp.mk (strB_append (Lib.uvarint x) (Lib.uvarint s.size))
  have ha2 : Kp (strB (Lib.uvarint x ++ Lib.uvarint s.size) ++ s = strB (mhBytes x (bl s))) := ⟨by
    have h := strB_append (Lib.uvarint x ++ Lib.uvarint s.size) (bl s)
    rw [strB_bl] at h
    rw [h, mhBytes, bl_length]⟩
  have HX := Kp.mk hx
  have hsz : s.size ≤ 9223372036854775807 := by omega
  have hwr : IntKind.u64.wrap (s.size : Int) = s.size := u64_wrap_id _ (by omega) (by omega)
  clear hx
  go_enter Tryz.func21, Tryz.ntmps21
  go_wp2_with fail
  refine wp_region_grow (by kernel_rfl) 11 (by decide) (apart_of (by kernel_rfl)) (by kernel_rfl) (mbR x s) (fun _ _ _ _ => True) (mbR_below x s) ?_ ?_
  · intro i hi o ho vs w2 hb hpre
    rcases i with _ | _ | _ | _ | _ | _ | _ | _ | _ | _ | _ | i
    · obtain rfl := Option.some.inj ho
      simp only [canon, List.range, List.range.loop, List.foldl]
      go_simp
      exact ⟨rfl, Below.refl _ _⟩
    · obtain rfl := Option.some.inj ho
      have e0 : vs 0 = _ := hpre 0 (by decide) rfl
      simp only [canon, List.range, List.range.loop, List.foldl]
      go_simp
      refine (HV1.out w2).mono ?_
      rintro e w3 ⟨⟨g, c, rfl, hr⟩, hb3⟩
      exact ⟨⟨g, c, rfl, hr⟩, hb3⟩
    · obtain ⟨g, c, e1, hr⟩ := hpre 1 (by decide) (by obtain rfl := Option.some.inj ho; rfl)
      obtain rfl := Option.some.inj ho
      have hcv := rd_string hr 60 9 Tryz.underlying60 Tryz.underlying9
      simp only [canon, List.range, List.range.loop, List.foldl]
      go_simp
      exact ⟨rfl, Below.refl _ _⟩
    · obtain rfl := Option.some.inj ho
      simp only [canon, List.range, List.range.loop, List.foldl]
      go_simp
      exact ⟨rfl, Below.refl _ _⟩
    · obtain rfl := Option.some.inj ho
      have e0 : vs 3 = _ := hpre 3 (by decide) rfl
      simp only [canon, List.range, List.range.loop, List.foldl]
      go_simp
      exact ⟨rfl, Below.refl _ _⟩
    · obtain rfl := Option.some.inj ho
      have e0 : vs 4 = _ := hpre 4 (by decide) rfl
      simp only [canon, List.range, List.range.loop, List.foldl]
      go_simp
      exact ⟨rfl, Below.refl _ _⟩
    · obtain rfl := Option.some.inj ho
      have e0 : vs 5 = _ := hpre 5 (by decide) rfl
      simp only [canon, List.range, List.range.loop, List.foldl]
      go_simp
      refine (HV2.out w2).mono ?_
      rintro e w3 ⟨⟨g, c, rfl, hr⟩, hb3⟩
      exact ⟨⟨g, c, rfl, hr⟩, hb3⟩
    · obtain ⟨g, c, e1, hr⟩ := hpre 6 (by decide) (by obtain rfl := Option.some.inj ho; rfl)
      obtain rfl := Option.some.inj ho
      have hcv := rd_string hr 60 9 Tryz.underlying60 Tryz.underlying9
      simp only [canon, List.range, List.range.loop, List.foldl]
      go_simp
      exact ⟨rfl, Below.refl _ _⟩
    · obtain rfl := Option.some.inj ho
      have e0 : vs 2 = _ := hpre 2 (by decide) rfl
      have e1 : vs 7 = _ := hpre 7 (by decide) rfl
      simp only [canon, List.range, List.range.loop, List.foldl]
      go_simp
      rw [if_neg (Nat.not_lt.2 hc1)]
      refine ⟨_, rfl, ?_, Below.refl _ _⟩
      show _ = _
      rw [← ha1.out]
    · obtain rfl := Option.some.inj ho
      simp only [canon, List.range, List.range.loop, List.foldl]
      go_simp
      exact ⟨rfl, Below.refl _ _⟩
    · obtain rfl := Option.some.inj ho
      have e0 : vs 8 = _ := hpre 8 (by decide) rfl
      have e1 : vs 9 = _ := hpre 9 (by decide) rfl
      simp only [canon, List.range, List.range.loop, List.foldl]
      go_simp
      rw [if_neg (Nat.not_lt.2 hc2)]
      refine ⟨_, rfl, ?_, Below.refl _ _⟩
      show _ = _
      rw [← ha2.out]
    · omega
  · intro vs w2 hb hr hd
    have e10 : vs 10 = _ := hr 10 (by omega)
    simp only [canon, List.range, List.range.loop, List.foldl]
    refine wpAny_last 11 (by kernel_rfl) ?_
    refine wpOp_go rfl rfl ?_
    go_simp
    refine wpAny_none (by kernel_rfl) ?_ _
    have HB := Kp.mk (bel_then (bel_drew (Below.refl w.heap.size w)) hb)
    go_wp2_with fail
    go_ret
    exact ⟨rfl, HB.out⟩

end Go.Proofs.YtgjocdnpephcgaaGreatDoor
