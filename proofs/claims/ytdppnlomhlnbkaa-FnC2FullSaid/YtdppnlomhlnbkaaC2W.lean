/- The walks of the functions that write a header of version 2. -/
import Derived.Test.YtdppnlomhlnbkaaPutArr
import Derived.Test.YtdppnlomhlnbkaaHead
import Derived.Test.YtdppnlomhlnbkaaGrow
import Derived.Lib.Endian
namespace Go.Proofs.Ytdppnlomhlnbkaa
open Go.RowKit

/-- What operations 0 to 4 of 'LittleEndian.PutUint64(buf[lo:hi], x.f)' leave. -/
def puR (g n lo ln cp box f v : Nat) (j : Nat) (u : Value) (_ : World) : Prop :=
  match j with
  | 0 => u = .agg #[]
  | 1 => u = .slice (some ⟨g, 0, none⟩) n n
  | 2 => u = .slice (some ⟨g, lo, none⟩) ln cp
  | 3 => u = .pointer (some ⟨box, f, none⟩)
  | 4 => u = .int .u64 v
  | _ => True
theorem put64_calls (g o n c v : Nat) (hv : v < 2 ^ 64) (w : World) (hn : 8 ≤ n) (cs : Array Value) (hg : w.heap[g]? = some (.cells cs 5 (0, 0))) (ho : o + 8 ≤ cs.size) :
    Calls Try.prog 18 #[.agg #[], .slice (some ⟨g, o, none⟩) n c, .int .u64 v] w fun e w' => e = .returned (.tuple #[]) ∧ w'.heap[g]? = some (.cells (putArr cs o (Lib.byteCells (Lib.leBytes 8 v))) 5 (0, 0)) ∧ w.heap.size ≤ w'.heap.size ∧ ∀ B, B ≤ g → Below B w w' := by
  have hlt : g < w.heap.size := (Array.getElem?_eq_some_iff.1 hg).1
  have hc : ∀ j, (h : j < 8) → w.cell? ⟨g, o + j, none⟩ = some (cs[o + j]'(by omega)) := fun j h => by rw [blk_cell hg, Array.getElem?_eq_getElem (by omega)]
  refine (Try.binary_LE_PutUint64 g o n c v hv _ _ _ _ _ _ _ _ w hn (hc 0 (by omega)) (hc 1 (by omega)) (hc 2 (by omega)) (hc 3 (by omega)) (hc 4 (by omega)) (hc 5 (by omega)) (hc 6 (by omega)) (hc 7 (by omega))
    (blk_frozen hg _) (blk_frozen hg _) (blk_frozen hg _) (blk_frozen hg _) (blk_frozen hg _) (blk_frozen hg _) (blk_frozen hg _) (blk_frozen hg _)).mono ?_
  rintro e w' ⟨rfl, rfl⟩
  have hal := bel_alloc (Below.refl w.heap.size w) (.cells #[] 54)
  refine ⟨rfl, blk_setCells _ _ _ (blk_keep hg hal), ?_, fun B hB => belB_sc hB _ _ (hal.mono (by omega))⟩
  exact (belB_sc (Nat.zero_le _) _ _ (hal.mono (Nat.zero_le _))).size

theorem cut_lo (t : TypeId) (ht : Try.prog.underlying t = some (.slice 5)) (g n m : Nat) (hm : m ≤ n) (W : World) :
    (Instr.slice t (.slice (some ⟨g, 0, none⟩) n n) none (some (.int .i64 (m : Int))) none).run Try.prog W = .ok (.slice (some ⟨g, 0, none⟩) m n) W := by
  obtain ⟨i, hi, _, hs, _⟩ := info_parts info_u8
  have hel : Try.prog.elem t = 5 := by simp [Program.elem, ht]
  have hu : Try.prog.underlying t = some (.slice (Try.prog.elem t)) := by rw [hel]; exact ht
  rw [run_slice_h W t _ n n hu .i64 (m : Int) (by omega) (by omega), hel]
  simp [sizeOf, typeInfo, hi, hs, sliced, Result.andThen, add_plain]
theorem cut_mid (t : TypeId) (ht : Try.prog.underlying t = some (.slice 5)) (g n l m : Nat) (h1 : l < m) (hm : m ≤ n) (W : World) :
    (Instr.slice t (.slice (some ⟨g, 0, none⟩) n n) (some (.int .i64 (l : Int))) (some (.int .i64 (m : Int))) none).run Try.prog W = .ok (.slice (some ⟨g, l, none⟩) (m - l) (n - l)) W := by
  obtain ⟨i, hi, _, hs, _⟩ := info_parts info_u8
  have hel : Try.prog.elem t = 5 := by simp [Program.elem, ht]
  have hu : Try.prog.underlying t = some (.slice (Try.prog.elem t)) := by rw [hel]; exact ht
  rw [run_slice_lh W t _ n n hu .i64 .i64 (l : Int) (m : Int) (by omega) (by omega) (by omega), hel]
  have hne : ¬ n = l := by omega
  simp [sizeOf, typeInfo, hi, hs, sliced, Result.andThen, add_plain, hne]
theorem cut_hi (t : TypeId) (ht : Try.prog.underlying t = some (.slice 5)) (g n l : Nat) (h1 : l < n) (W : World) :
    (Instr.slice t (.slice (some ⟨g, 0, none⟩) n n) (some (.int .i64 (l : Int))) none none).run Try.prog W = .ok (.slice (some ⟨g, l, none⟩) (n - l) (n - l)) W := by
  obtain ⟨i, hi, _, hs, _⟩ := info_parts info_u8
  have hel : Try.prog.elem t = 5 := by simp [Program.elem, ht]
  have hu : Try.prog.underlying t = some (.slice (Try.prog.elem t)) := by rw [hel]; exact ht
  rw [run_slice_l W t _ n n hu .i64 (l : Int) (by omega) (by omega), hel]
  have hne : ¬ n = l := by omega
  simp [sizeOf, typeInfo, hi, hs, sliced, Result.andThen, add_plain, hne]

set_option maxHeartbeats 4000000 in
set_option maxRecDepth 100000 in
/-- (Characteristics).WriteTo. -/
theorem chWrite_calls (B b hi lo : Nat) (xs : List UInt8) (w : World) (h : Buf B b xs w) (hBw : B ≤ w.heap.size) (h1 : hi < 2 ^ 64) (h2 : lo < 2 ^ 64) (hl : xs.length ≤ 1000) :
    Calls Try.prog 17 #[.agg #[.int .u64 hi, .int .u64 lo], .iface 45 (.pointer (some ⟨b, 0, none⟩))] w fun e w' => e = .returned (.tuple #[.int .i64 16, .nilIface]) ∧ Buf B b (xs ++ (Lib.leBytes 8 hi ++ Lib.leBytes 8 lo)) w' ∧ Below B w w' ∧ Beside b w w' := by
  have hmk : ∀ W : World, (Instr.makeSlice 36 (.int .i64 16) (.int .i64 16)).run Try.prog W = .ok (.slice (some ⟨W.heap.size, 0, none⟩) 16 16) (W.alloc (.cells (zeros 16) 5)) := fun W => mk_bytes 36 Try.underlying36 16 (by omega) W
  have HX := Kp.mk (And.intro h (And.intro hBw (And.intro h1 (And.intro h2 hl))))
  clear h hBw h1 h2 hl
  go_enter Try.func17, Try.ntmps17
  go_wp2_with fail
  generalize hW : (w.alloc _).alloc _ = W
  have hbx : W.heap[w.heap.size]? = some (.cells #[.int .u64 hi, .int .u64 lo] 30 (0, 0)) := by rw [← hW]; exact blk_new (bel_alloc (Below.refl _ _) _)
  have hgd : W.heap[w.heap.size + 1]? = some (.cells (zeros 16) 5 (0, 0)) := by rw [← hW]; exact blk_new2 (Below.refl _ _)
  have hbw : Below w.heap.size w W := by rw [← hW]; exact bel_alloc (bel_alloc (Below.refl _ _) _) _
  have HBX := Kp.mk hbx
  have HGD := Kp.mk hgd
  have HBW := Kp.mk hbw
  clear hW hbx hgd hbw hmk
  refine wp_region_grow (by kernel_rfl) 5 (by decide) (apart_of (by kernel_rfl)) (by kernel_rfl) (puR (w.heap.size + 1) 16 0 8 16 w.heap.size 0 hi) (fun _ _ _ _ => True) (fun _ _ _ _ h _ => by unfold puR at *; exact h) ?_ ?_
  · intro j hj o ho vs w5 hb hpre
    have hbx := blk_keep HBX.out (bel_then (bel_drew (Below.refl _ _)) hb)
    rcases j with _ | _ | _ | _ | _ | j
    · obtain rfl := Option.some.inj ho
      simp only [canon, List.range, List.range.loop, List.foldl]
      go_simp
      exact ⟨rfl, Below.refl _ _⟩
    · obtain rfl := Option.some.inj ho
      simp only [canon, List.range, List.range.loop, List.foldl]
      go_simp
      exact ⟨rfl, Below.refl _ _⟩
    · obtain rfl := Option.some.inj ho
      have e1 : vs 1 = _ := hpre 1 (by decide) rfl
      have hcut := cut_lo 36 Try.underlying36 (w.heap.size + 1) 16 8 (by omega)
      simp only [canon, List.range, List.range.loop, List.foldl]
      go_simp
      exact ⟨rfl, Below.refl _ _⟩
    · obtain rfl := Option.some.inj ho
      simp only [canon, List.range, List.range.loop, List.foldl]
      go_simp
      exact ⟨rfl, Below.refl _ _⟩
    · obtain rfl := Option.some.inj ho
      have e3 : vs 3 = _ := hpre 3 (by decide) rfl
      have hcc := blk_cell hbx 0
      simp only [canon, List.range, List.range.loop, List.foldl]
      go_simp
      exact ⟨rfl, Below.refl _ _⟩
    · omega
  · intro vs w5 hb hr _
    have e0 : vs 0 = _ := hr 0 (by omega)
    have e2 : vs 2 = _ := hr 2 (by omega)
    have e4 : vs 4 = _ := hr 4 (by omega)
    have hb' := bel_then (bel_drew (Below.refl W.heap.size W)) hb
    simp only [canon, List.range, List.range.loop, List.foldl]
    refine wpAny_last 5 (by kernel_rfl) ?_
    refine wpOp_go rfl rfl ?_
    go_simp
    refine (put64_calls (w.heap.size + 1) 0 8 16 hi HX.out.2.2.1 w5 (by omega) (zeros 16) (blk_keep HGD.out hb') (by rw [zeros_size]; omega)).mono ?_
    rintro e w6 ⟨rfl, hg6, hs6, hf6⟩
    have HB6 := Kp.mk (HBW.out.trans ((hb'.mono (HBW.out.size)).trans (hf6 w.heap.size (by omega))))
    have HX6 := Kp.mk ((hf6 (w.heap.size + 1) (Nat.le_refl _)).block w.heap.size (by omega) |>.trans (blk_keep HBX.out hb'))
    have HG6 := Kp.mk hg6
    refine wpAny_none (by kernel_rfl) ?_ _
    clear hb hr hb' hg6 hs6 hf6 HBX HGD HBW e0 e2 e4
    go_wp2_with fail
    refine wp_region_grow (by kernel_rfl) 5 (by decide) (apart_of (by kernel_rfl)) (by kernel_rfl) (puR (w.heap.size + 1) 16 8 8 8 w.heap.size 1 lo) (fun _ _ _ _ => True) (fun _ _ _ _ h _ => by unfold puR at *; exact h) ?_ ?_
    · intro j hj o ho vs w5 hb hpre
      have hbx := blk_keep HX6.out (bel_then (bel_drew (Below.refl _ _)) hb)
      rcases j with _ | _ | _ | _ | _ | j
      · obtain rfl := Option.some.inj ho
        simp only [canon, List.range, List.range.loop, List.foldl]
        go_simp
        exact ⟨rfl, Below.refl _ _⟩
      · obtain rfl := Option.some.inj ho
        simp only [canon, List.range, List.range.loop, List.foldl]
        go_simp
        exact ⟨rfl, Below.refl _ _⟩
      · obtain rfl := Option.some.inj ho
        have e1 : vs 1 = _ := hpre 1 (by decide) rfl
        have hcut := cut_hi 36 Try.underlying36 (w.heap.size + 1) 16 8 (by omega)
        simp only [canon, List.range, List.range.loop, List.foldl]
        go_simp
        exact ⟨rfl, Below.refl _ _⟩
      · obtain rfl := Option.some.inj ho
        simp only [canon, List.range, List.range.loop, List.foldl]
        go_simp
        exact ⟨rfl, Below.refl _ _⟩
      · obtain rfl := Option.some.inj ho
        have e3 : vs 3 = _ := hpre 3 (by decide) rfl
        have hcc := blk_cell hbx 1
        simp only [canon, List.range, List.range.loop, List.foldl]
        go_simp
        exact ⟨rfl, Below.refl _ _⟩
      · omega
    · intro vs w5 hb hr _
      have e0 : vs 0 = _ := hr 0 (by omega)
      have e2 : vs 2 = _ := hr 2 (by omega)
      have e4 : vs 4 = _ := hr 4 (by omega)
      have hb' := bel_then (bel_drew (Below.refl w6.heap.size w6)) hb
      simp only [canon, List.range, List.range.loop, List.foldl]
      refine wpAny_last 5 (by kernel_rfl) ?_
      refine wpOp_go rfl rfl ?_
      go_simp
      refine (put64_calls (w.heap.size + 1) 8 8 8 lo HX.out.2.2.2.1 w5 (by omega) _ (blk_keep HG6.out hb') (by rw [putArr_size, zeros_size]; omega)).mono ?_
      rintro e w7 ⟨rfl, hg7, hs7, hf7⟩
      have HB7 := Kp.mk (HB6.out.trans ((hb'.mono (HB6.out.size)).trans (hf7 w.heap.size (by omega))))
      have HG7 := Kp.mk hg7
      refine wpAny_none (by kernel_rfl) ?_ _
      clear hb hr hb' hg7 hs7 hf7 HX6 HG6 HB6 e0 e2 e4
      have hrd : RdB w7 (some ⟨w.heap.size + 1, 0, none⟩) 16 16 (Lib.leBytes 8 hi ++ Lib.leBytes 8 lo) := by
        have := rd_of_blk (bs := Lib.leBytes 8 hi ++ Lib.leBytes 8 lo) HG7.out (put_two hi lo) (by rw [List.length_append, Lib.leBytes_length, Lib.leBytes_length]; omega)
        rw [List.length_append, Lib.leBytes_length, Lib.leBytes_length] at this
        exact this
      have hlt : b < w.heap.size := HX.out.1.lt
      have HWr := Kp.mk (bufWrite_calls B b xs (w.heap.size + 1) 0 16 16 _ w7 (HX.out.1.below HB7.out) hrd (by omega) (by omega) (by have := HB7.out.size; have := HX.out.2.1; omega) (by have := HX.out.2.2.2.2; omega))
      have hm : ∀ W, (method 182 45 (.pointer (some ⟨b, 0, none⟩)) "Write").run Try.prog W = .ok (37, .pointer (some ⟨b, 0, none⟩)) W := fun _ => by kernel_rfl
      clear hrd hlt HG7
      go_wp2_with fail
      refine HWr.out.mono ?_
      rintro e w8 ⟨rfl, hbf, hB8, hO8⟩
      have HE := Kp.mk (And.intro hbf (And.intro ((HB7.out.mono HX.out.2.1).trans hB8) (Lib.OthersKept.trans (beside_below HB7.out) hO8)))
      clear hbf hB8 hO8 HWr HB7
      go_wp2_with fail
      go_ret2
      exact ⟨rfl, HE.out.1, HE.out.2.1, HE.out.2.2⟩

end Go.Proofs.Ytdppnlomhlnbkaa
