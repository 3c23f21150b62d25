/- The walks of the functions that write a multihash. -/
import Derived.Test.YtnhnkfdhkifahaaGreatDoorUvA
import Derived.Test.YtnhnkfdhkifahaaGreatDoorMhMath
namespace Go.Proofs.YtnhnkfdhkifahaaGreatDoor
open Go.RowKit

theorem setCells_append (g : Nat) : ∀ (xs ys : List Value) (o : Nat) (w : World), w.setCells g o (xs ++ ys) = (w.setCells g o xs).setCells g (o + xs.length) ys
  | [], _, _, _ => rfl
  | x :: xs, ys, o, w => by
    rw [List.cons_append, World.setCells, setCells_append g xs ys (o + 1), World.setCells, List.length_cons, show o + 1 + xs.length = o + (xs.length + 1) by omega]
theorem byteCells_append (xs ys : List UInt8) : Lib.byteCells (xs ++ ys) = Lib.byteCells xs ++ Lib.byteCells ys := by simp [Lib.byteCells]

theorem setCells_cell_some (g : Nat) (vs : List Value) (o : Nat) (w : World) (j : Nat) (h : (w.cell? ⟨g, j, none⟩).isSome = true) (hall : ∀ i, i < vs.length → (w.cell? ⟨g, o + i, none⟩).isSome = true) : ((w.setCells g o vs).cell? ⟨g, j, none⟩).isSome = true := by
  by_cases hj : o ≤ j ∧ j < o + vs.length
  · obtain ⟨i, rfl⟩ : ∃ i, j = o + i := ⟨j - o, by omega⟩
    rw [World.cell?_setCells_in g vs o w hall i (by omega)]; rfl
  · rw [World.cell?_setCells_out g vs o w _ (fun _ _ => by simp; omega)]; exact h

set_option maxHeartbeats 800000 in
/-- varint.PutUvarint is binary.PutUvarint. -/
theorem putUv_calls (g o n c x : Nat) (hx : x < 2 ^ 64) (w : World) (hn : (Lib.uvarint x).length ≤ n)
    (hcell : ∀ j, j < (Lib.uvarint x).length → (w.cell? ⟨g, o + j, none⟩).isSome = true ∧ w.frozen? ⟨g, o + j, none⟩ = false) :
    Calls Tryz.prog 23 #[.slice (some ⟨g, o, none⟩) n c, .int .u64 x] w fun e w' => e = .returned (.int .i64 (Lib.uvarint x).length) ∧ w' = w.setCells g o (Lib.byteCells (Lib.uvarint x)) := by
  have HP := Kp.mk (Tryz.binary_PutUvarint g o n c x hx w hn hcell)
  clear hx hn hcell
  generalize Lib.uvarint x = ux at *
  go_enter Tryz.func23, Tryz.ntmps23
  go_wp2_with fail
  refine HP.out.mono ?_
  rintro e w1 ⟨rfl, hw⟩
  have HW := Kp.mk hw
  clear hw
  go_wp2_with fail
  go_ret
  exact ⟨rfl, HW.out⟩

/-- 'b[m:]' of a row of the call's own, short of its end. -/
theorem cut_own (t : TypeId) (kl : IntKind) (ht : Tryz.prog.underlying t = some (.slice 5)) (g n m : Nat) (hm : m < n) (W : World) :
    (Instr.slice t (.slice (some ⟨g, 0, none⟩) n n) (some (.int kl (m : Int))) none none).run Tryz.prog W = .ok (.slice (some ⟨g, m, none⟩) (n - m) (n - m)) W := by
  obtain ⟨i, hi, _, hs, _⟩ := info_parts info_u8
  have hel : Tryz.prog.elem t = 5 := by simp [Program.elem, ht]
  have hu : Tryz.prog.underlying t = some (.slice (Tryz.prog.elem t)) := by rw [hel]; exact ht
  rw [run_slice_l W t _ n n hu kl (m : Int) (Int.natCast_nonneg _) (by omega), hel]
  have hne : ¬ n = m := by omega
  simp [sizeOf, typeInfo, hi, hs, sliced, Result.andThen, hne, add_plain]

/-- 'b[m:]' of a row of the call's own, at its end too. -/
theorem cut_end (t : TypeId) (kl : IntKind) (ht : Tryz.prog.underlying t = some (.slice 5)) (g n m : Nat) (hm : m ≤ n) :
    ∃ o, (m < n → o = m) ∧ ∀ W : World, (Instr.slice t (.slice (some ⟨g, 0, none⟩) n n) (some (.int kl (m : Int))) none none).run Tryz.prog W = .ok (.slice (some ⟨g, o, none⟩) (n - m) (n - m)) W := by
  by_cases h : m < n
  · exact ⟨m, fun _ => rfl, cut_own t kl ht g n m h⟩
  · obtain rfl : m = n := by omega
    refine ⟨0, fun h => by omega, fun W => ?_⟩
    obtain ⟨i, hi, _, hs, _⟩ := info_parts info_u8
    have hel : Tryz.prog.elem t = 5 := by simp [Program.elem, ht]
    have hu : Tryz.prog.underlying t = some (.slice (Tryz.prog.elem t)) := by rw [hel]; exact ht
    rw [run_slice_l W t _ m m hu kl (m : Int) (Int.natCast_nonneg _) (by omega), hel]
    simp [sizeOf, typeInfo, hi, hs, sliced, Result.andThen]

/-- 'copy(dst, src)' of as many bytes. -/
theorem copy_bytes (W : World) (g o n c c' ga oa : Nat) (bs : List UInt8) (hr : RdB W (some ⟨ga, oa, none⟩) n c' bs) (hc : ∀ j, j < n → (W.cell? ⟨g, o + j, none⟩).isSome = true) (hf : ∀ j, j < n → W.frozen? ⟨g, o + j, none⟩ = false) :
    (Builtin.copy_ #[33, 33] 3 #[.slice (some ⟨g, o, none⟩) n c, .slice (some ⟨ga, oa, none⟩) n c']).run Tryz.prog W = .ok (goInt n) (W.setCells g o (Lib.byteCells bs)) := by
  have hl := hr.len
  have h := run_copy_cells (P := Tryz.prog) W 33 33 3 5 g o n c ⟨ga, oa, none⟩ n c' (Lib.byteCells bs) Tryz.underlying33 (by kernel_rfl) (by rw [Lib.byteCells_length, hl]; simp)
    (fun j v hj => by
      have hjl : j < bs.length := by
        have := (List.getElem?_eq_some_iff.1 hj).1
        rwa [Lib.byteCells_length] at this
      obtain ⟨g', o', e, hcell⟩ := hr.lies (by omega)
      have e' := Option.some.inj e
      simp only [Addr.mk.injEq] at e'
      obtain ⟨rfl, rfl, _⟩ := e'
      rw [add_plain, hcell j hjl]
      simp [Lib.byteCells, List.getElem?_eq_getElem hjl] at hj
      rw [hj])
    (fun j hj => hc j (by rw [Lib.byteCells_length] at hj; omega)) (fun j hj => hf j (by rw [Lib.byteCells_length] at hj; omega)) (fun v hv => by
      simp only [Lib.byteCells, List.mem_map] at hv
      obtain ⟨b, _, rfl⟩ := hv
      rfl)
  rw [Lib.byteCells_length, hl] at h
  exact h

theorem copy_bytesA (W : World) (g o n c c' : Nat) (A : Option Addr) (bs : List UInt8) (hr : RdB W A n c' bs) (hc : ∀ j, j < n → (W.cell? ⟨g, o + j, none⟩).isSome = true) (hf : ∀ j, j < n → W.frozen? ⟨g, o + j, none⟩ = false) :
    (Builtin.copy_ #[33, 33] 3 #[.slice (some ⟨g, o, none⟩) n c, .slice A n c']).run Tryz.prog W = .ok (goInt n) (W.setCells g o (Lib.byteCells bs)) := by
  rcases Nat.eq_zero_or_pos n with rfl | hp
  · have hbs : bs = [] := List.eq_nil_of_length_eq_zero hr.len
    subst hbs
    exact run_copy_none W 33 33 3 5 _ _ 0 c 0 c' Tryz.underlying33 (by kernel_rfl) rfl
  · obtain ⟨ga, oa, rfl, _⟩ := hr.lies hp
    exact copy_bytes W g o n c c' ga oa bs hr hc hf
set_option maxHeartbeats 1600000 in
set_option maxRecDepth 100000 in
/-- multihash.Encode. -/
theorem mhEncodeA_calls (A : Option Addr) (n c code : Nat) (bs : List UInt8) (w : World) (hr : RdB w A n c bs) (hx : code < 2 ^ 64) (hn : n ≤ 2147483647) :
    Calls Tryz.prog 17 #[.slice A n c, .int .u64 code] w fun e w' =>
      (e = .returned (.tuple #[.slice (some ⟨w.heap.size, 0, none⟩) (mhBytes code bs).length (mhBytes code bs).length, .nilIface]) ∧ RdB w' (some ⟨w.heap.size, 0, none⟩) (mhBytes code bs).length (mhBytes code bs).length (mhBytes code bs)) ∧ Below w.heap.size w w' := by
  have hlen := hr.len
  have h1 := uvSize_le hx
  have h1' := uvSize_pos hx
  have h2 := uvSize_le (x := n) (by omega)
  have h2' := uvSize_pos (x := n) (by omega)
  have HS1 := Kp.mk (fun w => uvSize_calls code w hx)
  have HS2 := Kp.mk (fun w => uvSize_calls n w (by omega))
  have hl1 := Kp.mk (uvarint_len code hx)
  have hl2 := Kp.mk (uvarint_len n (by omega))
  have hL : Kp ((mhBytes code bs).length = uvSize code + uvSize n + n) := ⟨by rw [mhBytes, List.length_append, List.length_append, hl1.out, hlen, hl2.out]⟩
  have hb : Kp (mhBytes code bs = Lib.uvarint code ++ Lib.uvarint n ++ bs) := ⟨by rw [mhBytes, hlen]⟩
  obtain ⟨L, hLe⟩ : ∃ L : Nat, L = uvSize code + uvSize n + n := ⟨_, rfl⟩
  have hLi : ((uvSize code : Nat) : Int) + ((uvSize n : Nat) : Int) + (n : Int) = (L : Int) := by omega
  have hmk := fun W => mk_bytes 33 Tryz.underlying33 L (by omega) W
  have HR := Kp.mk hr
  have hcut1 := cut_own 33 .i64 Tryz.underlying33 w.heap.size L (uvSize code) (by omega)
  have HP1 := Kp.mk (putUv_calls w.heap.size 0 L L code hx (w.alloc (.cells (zeros L) 5)) (by rw [hl1.out]; omega) (fun j hj => new_cells w _ _ j (by rw [hl1.out] at hj; omega)))
  have hF := Kp.mk (fun j (hj : j < L) => new_cells w L 5 j hj)
  rw [hl1.out] at HP1
  have HP2 : Kp (Calls Tryz.prog 23 #[.slice (some ⟨w.heap.size, uvSize code, none⟩) (L - uvSize code) (L - uvSize code), .int .u64 n] ((w.alloc (.cells (zeros L) 5)).setCells w.heap.size 0 (Lib.byteCells (Lib.uvarint code)))
      fun e w' => e = .returned (.int .i64 (uvSize n)) ∧ w' = ((w.alloc (.cells (zeros L) 5)).setCells w.heap.size 0 (Lib.byteCells (Lib.uvarint code))).setCells w.heap.size (uvSize code) (Lib.byteCells (Lib.uvarint n))) := ⟨by
    have := putUv_calls w.heap.size (uvSize code) (L - uvSize code) (L - uvSize code) n (by omega) ((w.alloc (.cells (zeros L) 5)).setCells w.heap.size 0 (Lib.byteCells (Lib.uvarint code))) (by rw [hl2.out]; omega) (fun j hj => by
      rw [hl2.out] at hj
      refine ⟨setCells_cell_some _ _ _ _ _ ?_ ?_, ?_⟩
      · have := (hF.out (uvSize code + j) (by omega)).1; rwa [Nat.zero_add] at this
      · intro i hi; rw [Lib.byteCells_length, hl1.out] at hi; exact (hF.out i (by omega)).1
      · rw [World.frozen?_setCells]; have := (hF.out (uvSize code + j) (by omega)).2; rwa [Nat.zero_add] at this)
    rw [hl2.out] at this
    exact this⟩
  obtain ⟨o, ho, hcut2⟩ := cut_end 33 .i64 Tryz.underlying33 w.heap.size L (uvSize code + uvSize n) (by omega)
  have hLn : L - (uvSize code + uvSize n) = n := by omega
  rw [hLn] at hcut2
  simp only [Int.natCast_add] at hcut2
  have HX := Kp.mk hx
  have hfin : Kp (∀ w3, w3 = ((w.alloc (.cells (zeros L) 5)).setCells w.heap.size 0 (Lib.byteCells (Lib.uvarint code))).setCells w.heap.size (uvSize code) (Lib.byteCells (Lib.uvarint n)) →
      (Builtin.copy_ #[33, 33] 3 #[.slice (some ⟨w.heap.size, o, none⟩) n n, .slice A n c]).run Tryz.prog w3 = .ok (goInt n) (w3.setCells w.heap.size o (Lib.byteCells bs)) ∧
      w3.setCells w.heap.size o (Lib.byteCells bs) = (w.alloc (.cells (zeros L) 5)).setCells w.heap.size 0 (Lib.byteCells (mhBytes code bs))) := ⟨by
    rintro w3 rfl
    have hbel : Below w.heap.size w (((w.alloc (.cells (zeros L) 5)).setCells w.heap.size 0 (Lib.byteCells (Lib.uvarint code))).setCells w.heap.size (uvSize code) (Lib.byteCells (Lib.uvarint n))) :=
      bel_setCells (Nat.le_refl _) _ _ (bel_setCells (Nat.le_refl _) _ _ (bel_alloc (Below.refl _ _) _))
    refine ⟨copy_bytesA _ _ _ _ _ _ _ bs (HR.out.below hbel) (fun j hj => ?_) (fun j hj => ?_), ?_⟩
    · rw [ho (by omega)]
      refine setCells_cell_some _ _ _ _ _ (setCells_cell_some _ _ _ _ _ ?_ ?_) ?_
      · have := (hF.out (uvSize code + uvSize n + j) (by omega)).1; rwa [Nat.zero_add] at this
      · intro i hi; rw [Lib.byteCells_length, hl1.out] at hi; exact (hF.out i (by omega)).1
      · intro i hi; rw [Lib.byteCells_length, hl2.out] at hi
        refine setCells_cell_some _ _ _ _ _ ?_ ?_
        · have := (hF.out (uvSize code + i) (by omega)).1; rwa [Nat.zero_add] at this
        · intro i hi; rw [Lib.byteCells_length, hl1.out] at hi; exact (hF.out i (by omega)).1
    · rw [World.frozen?_setCells, World.frozen?_setCells, ho (by omega)]
      have := (hF.out (uvSize code + uvSize n + j) (by omega)).2; rwa [Nat.zero_add] at this
    · rw [hb.out, byteCells_append, byteCells_append, setCells_append, setCells_append]
      simp only [List.length_append, Lib.byteCells_length, hl1.out, hl2.out, Nat.zero_add]
      by_cases h0 : n = 0
      · have hbs : bs = [] := List.eq_nil_of_length_eq_zero (by omega)
        subst hbs; rfl
      · rw [ho (by omega)]⟩
  have hL' : Kp ((mhBytes code bs).length = L) := ⟨by rw [hL.out, hLe]⟩
  have hput : Kp (RdB ((w.alloc (.cells (zeros L) 5)).setCells w.heap.size 0 (Lib.byteCells (mhBytes code bs))) (some ⟨w.heap.size, 0, none⟩) L L (mhBytes code bs)) := ⟨by
    have := put_new w L (mhBytes code bs) 5 (by rw [hL'.out]; exact Nat.le_refl _) (by omega)
    rwa [hL'.out] at this⟩
  rw [hL'.out]
  have hbe : Kp (Below w.heap.size w ((w.alloc (.cells (zeros L) 5)).setCells w.heap.size 0 (Lib.byteCells (mhBytes code bs)))) := ⟨bel_setCells (Nat.le_refl _) _ _ (bel_alloc (Below.refl _ _) _)⟩
  generalize uvSize code = sa at *
  generalize uvSize n = sb at *
  clear hb hl1 hl2 hL HR hF hr hx hlen hLe hLn ho
  go_enter Tryz.func17, Tryz.ntmps17
  go_wp2_with fail
  refine (HS1.out _).mono ?_
  rintro e w' ⟨rfl, rfl⟩
  go_wp2_with fail
  refine (HS2.out _).mono ?_
  rintro e w' ⟨rfl, rfl⟩
  go_wp2_with fail
  refine HP1.out.mono ?_
  rintro e w1 ⟨rfl, rfl⟩
  go_wp2_with fail
  refine HP2.out.mono ?_
  rintro e w3 ⟨rfl, hw3⟩
  obtain ⟨hcopy, hend⟩ := hfin.out w3 hw3
  have HEND := Kp.mk hend
  clear hend hw3 HP1 HP2 hfin
  go_wp2_with fail
  go_ret2
  refine ⟨⟨by first | rfl | simp, ?_⟩, ?_⟩
  · rw [HEND.out]; exact hput.out
  · rw [HEND.out]; exact hbe.out

/-- The same of a slice that lies somewhere. -/
theorem mhEncode_calls (ga oa n c code : Nat) (bs : List UInt8) (w : World) (hr : RdB w (some ⟨ga, oa, none⟩) n c bs) (hx : code < 2 ^ 64) (hn : n ≤ 2147483647) :
    Calls Tryz.prog 17 #[.slice (some ⟨ga, oa, none⟩) n c, .int .u64 code] w fun e w' =>
      (e = .returned (.tuple #[.slice (some ⟨w.heap.size, 0, none⟩) (mhBytes code bs).length (mhBytes code bs).length, .nilIface]) ∧ RdB w' (some ⟨w.heap.size, 0, none⟩) (mhBytes code bs).length (mhBytes code bs).length (mhBytes code bs)) ∧ Below w.heap.size w w' :=
  mhEncodeA_calls _ n c code bs w hr hx hn

end Go.Proofs.YtnhnkfdhkifahaaGreatDoor
