/- The walks of util.LdWrite and impl.LdWrite. -/
import Derived.Test.YtdppnlomhlnbkaaDoorBytesOf
import Derived.Test.YtdppnlomhlnbkaaDoorMhEnc
import Derived.Test.YtdppnlomhlnbkaaDoorGrow
import Derived.Handy
namespace Go.Proofs.YtdppnlomhlnbkaaDoor
open Go.RowKit

/-- How many bytes the first k strings have together. -/
def szSum (ss : List ByteArray) (k : Nat) : Nat := ((ss.take k).map ByteArray.size).sum
/-- The first k strings, one behind the other. -/
def joined (ss : List ByteArray) (k : Nat) : List UInt8 := (ss.take k).flatMap bl
theorem take_succ_of {ss : List ByteArray} {k : Nat} {s : ByteArray} (h : ss[k]? = some s) : ss.take (k + 1) = ss.take k ++ [s] := by
  obtain ⟨hl, rfl⟩ := List.getElem?_eq_some_iff.1 h
  exact (List.take_append_getElem hl).symm
theorem szSum_succ (ss : List ByteArray) (k : Nat) {s : ByteArray} (h : ss[k]? = some s) : szSum ss (k + 1) = szSum ss k + s.size := by
  simp [szSum, take_succ_of h]
theorem joined_succ (ss : List ByteArray) (k : Nat) {s : ByteArray} (h : ss[k]? = some s) : joined ss (k + 1) = joined ss k ++ bl s := by
  simp [joined, take_succ_of h]
theorem joined_len (ss : List ByteArray) (k : Nat) : (joined ss k).length = szSum ss k := by
  unfold joined szSum
  induction ss.take k with
  | nil => rfl
  | cons a r ih => simp [bl_length, ih]
theorem szSum_le (ss : List ByteArray) (h : ∀ s ∈ ss, s.size ≤ 2147483647) (k : Nat) : szSum ss k ≤ ss.length * 2147483647 := by
  have h2 : ∀ l : List ByteArray, (∀ s ∈ l, s.size ≤ 2147483647) → (l.map ByteArray.size).sum ≤ l.length * 2147483647 := fun l => by
    induction l with
    | nil => intro _; simp
    | cons a r ih =>
      intro hl
      have h3 := hl a (by simp)
      have h4 := ih (fun s hs => hl s (by simp [hs]))
      simp only [List.map_cons, List.sum_cons, List.length_cons, Nat.add_mul]
      omega
  refine Nat.le_trans (h2 _ (fun s hs => h s (List.mem_of_mem_take hs))) ?_
  exact Nat.mul_le_mul_right _ (by rw [List.length_take]; omega)

/-- What operations 0 to 6 of the writing region leave. -/
def lwR (b g n : Nat) (j : Nat) (v : Value) (_ : World) : Prop :=
  match j with
  | 0 => v = .iface 83 (.pointer (some ⟨b, 0, none⟩))
  | 1 => v = .slice (some ⟨g, 0, none⟩) 8 8
  | 2 => v = .int .i64 n
  | 3 => v = .slice (some ⟨g, 0, none⟩) n 8
  | 4 => v = .func (Fn.method "Write") #[.iface 83 (.pointer (some ⟨b, 0, none⟩))] #[]
  | 5 => v = .func (Fn.method "Write") #[.iface 83 (.pointer (some ⟨b, 0, none⟩))] #[]
  | 6 => v = .iface 83 (.pointer (some ⟨b, 0, none⟩))
  | _ => True
theorem cut_lo8 (g n : Nat) (hn : n ≤ 8) (W : World) :
    (Instr.slice 62 (.slice (some ⟨g, 0, none⟩) 8 8) none (some (.int .i64 (n : Int))) none).run Tryd.prog W = .ok (.slice (some ⟨g, 0, none⟩) n 8) W := by
  obtain ⟨i, hi, _, hs, _⟩ := info_parts info_u8
  have hel : Tryd.prog.elem 62 = 5 := by simp [Program.elem, Tryd.underlying62]
  have hu : Tryd.prog.underlying 62 = some (.slice (Tryd.prog.elem 62)) := by rw [hel]; exact Tryd.underlying62
  rw [run_slice_h W 62 _ 8 8 hu .i64 (n : Int) (by omega) (by omega), hel]
  simp [sizeOf, typeInfo, hi, hs, sliced, Result.andThen, add_plain]

set_option maxHeartbeats 16000000 in
set_option maxRecDepth 100000 in
/-- util.LdWrite of some parts to a bytes.Buffer. -/
theorem ldWrite_calls (B b : Nat) (v : Value) (xs : List Value) (ss : List ByteArray) (w : World) (hbf : Buf B b [] w) (hBw : B ≤ w.heap.size) (hp : PartsIn w B v xs ss ss.length) (hN : ss.length ≤ 1000) (h0 : 0 < ss.length) (hsz : ∀ s ∈ ss, s.size ≤ 2147483647) :
    Calls Tryd.prog 37 #[.iface 83 (.pointer (some ⟨b, 0, none⟩)), v] w fun e w' => e = .returned .nilIface ∧ Buf B b (Lib.uvarint (szSum ss ss.length) ++ joined ss ss.length) w' ∧ Below B w w' ∧ Marked w w' ∧ Beside b w w' := by
  have hmk : ∀ W : World, (Instr.makeSlice 62 (.int .i64 8) (.int .i64 8)).run Tryd.prog W = .ok (.slice (some ⟨W.heap.size, 0, none⟩) 8 8) (W.alloc (.cells (zeros 8) 5)) := fun W => mk_bytes 62 Tryd.underlying62 8 (by omega) W
  have htot := szSum_le ss hsz ss.length
  generalize hNe : ss.length = N at *
  have HNe := Kp.mk hNe
  obtain ⟨hxl, hcase⟩ := hp.1
  rcases hcase with ⟨_, h⟩ | ⟨g, cap, cur, rfl, hg, hgg, hgn, hgc, hgs, htk⟩
  · omega
  have hcur : ∀ j, j < N → cur[j]? = xs[j]? := fun j hj => by
    rw [← htk, List.getElem?_take, if_pos (by omega), Array.getElem?_toList]
  have hgb : g ≠ b := by
    rintro rfl
    obtain ⟨_, _, _, hbk, _⟩ := hbf
    rw [hbk] at hgg
    injection hgg with hgg
    injection hgg with _ hgg _
    exact absurd hgg (by decide)
  have HR := Kp.mk (And.intro hgg (And.intro hgb (And.intro hgn hcur)))
  have HP := Kp.mk hp
  have HB := Kp.mk hbf
  have hs64 : szSum ss N < 2 ^ 56 := by omega
  have HX := Kp.mk (And.intro hBw (And.intro hs64 (And.intro htot hsz)))
  have hul : (Lib.uvarint (szSum ss N)).length ≤ 8 := by
    rw [uvarint_len _ (by omega)]
    have hb := Lib.bitLen_le (szSum ss N) 56 (by omega) hs64
    unfold uvSize
    split <;> omega
  have hup : 0 < (Lib.uvarint (szSum ss N)).length := by rw [uvarint_len _ (by omega)]; exact uvSize_pos (by omega)
  have HL := Kp.mk hul
  have HU := Kp.mk hup
  have hcap63 : cap ≤ 9223372036854775807 := hgc
  clear hbf hBw hp hsz hgg hgb htk hcur hxl hs64 hul hup hNe hgs hg htot hgc
  go_enter Tryd.func37, Tryd.ntmps37
  go_wp2
  go_loop [5, 16] (fun vs vk => ∃ (k : Nat), k ≤ N ∧ vs = .int .u64 (szSum ss k) ∧ vk = .int .i64 k)
    (fun _ vk => N - (intOf vk).toNat)
  case atStart => exact ⟨0, by omega, rfl, rfl⟩
  case round =>
    obtain ⟨k, hkN, rfl, rfl⟩ := hrel
    by_cases hk : k < N
    · obtain ⟨s, x, hs, hx, hpv⟩ := HP.out.2 k hk
      obtain ⟨h, cap2, cs2, fz, rfl, _, _, _⟩ := hpv
      have hcell := blk_cell HR.out.1 k
      rw [HR.out.2.2.2 k hk, hx] at hcell
      have hsz := HX.out.2.2.2 s (List.mem_of_getElem? hs)
      have hml := szSum_le ss HX.out.2.2.2 k
      have hNN := HNe.out
      have hsb : szSum ss k ≤ 2147483647000 := by omega
      have hS := Kp.mk (szSum_succ ss k hs)
      rw [bl_length] at hcell
      clear hml hNN hs hx
      go_wp2
      go_round
      case rel => exact ⟨k + 1, by omega, by rw [hS.out]; go_num, by go_num⟩
      case measure => simp only [intOf]; omega
    · have hkN2 : N = k := by omega
      subst hkN2
      have hlt56 := HX.out.2.1
      have HPU := Kp.mk (putUv_calls w.heap.size 0 8 8 (szSum ss N) (by omega) (w.alloc (.cells (zeros 8) 5)) HL.out (fun j hj => new_cells w 8 _ j (by have := HL.out; omega)))
      clear hlt56
      go_wp2_with fail
      refine HPU.out.mono ?_
      rintro e w1 ⟨rfl, hw1⟩
      have hput := put_new w 8 (Lib.uvarint (szSum ss N)) 5 HL.out (by omega)
      rw [← hw1] at hput
      have hb1 : Below w.heap.size w w1 := by rw [hw1]; exact bel_setCells (Nat.le_refl _) _ _ (bel_alloc (Below.refl _ _) _)
      have HW1 := Kp.mk (And.intro hput hb1)
      have hl8 := HL.out
      clear hput hb1 hw1 HPU hmk
      generalize hLe : (Lib.uvarint (szSum ss N)).length = L at *
      go_wp2_with fail
      refine wp_region_grow (by kernel_rfl) 7 (by decide) (apart_of (by kernel_rfl)) (by kernel_rfl) (lwR b w.heap.size L) (fun _ _ _ _ => True) (fun _ _ _ _ h _ => by unfold lwR at *; exact h) ?_ ?_
      · intro j hj o ho vs w2 hb hpre
        rcases j with _ | _ | _ | _ | _ | _ | _ | j
        · obtain rfl := Option.some.inj ho
          simp only [canon, List.range, List.range.loop, List.foldl]
          go_simp
          exact ⟨rfl, Below.refl _ _⟩
        · obtain rfl := Option.some.inj ho
          simp only [canon, List.range, List.range.loop, List.foldl]
          go_simp
          exact ⟨rfl, Below.refl _ _⟩
        · obtain rfl := Option.some.inj ho
          simp only [canon, List.range, List.range.loop, List.foldl]
          go_simp
          exact ⟨rfl, Below.refl _ _⟩
        · obtain rfl := Option.some.inj ho
          have e1 : vs 1 = _ := hpre 1 (by decide) rfl
          have e2 : vs 2 = _ := hpre 2 (by decide) rfl
          have hcut := fun W => cut_lo8 w.heap.size L hl8 W
          simp only [canon, List.range, List.range.loop, List.foldl]
          go_simp
          exact ⟨rfl, Below.refl _ _⟩
        · obtain rfl := Option.some.inj ho
          have e0 : vs 0 = _ := hpre 0 (by decide) rfl
          simp only [canon, List.range, List.range.loop, List.foldl]
          go_simp
          exact ⟨rfl, Below.refl _ _⟩
        · obtain rfl := Option.some.inj ho
          have e4 : vs 4 = _ := hpre 4 (by decide) rfl
          simp only [canon, List.range, List.range.loop, List.foldl]
          go_simp
          have hna : (nilAhead 280 83 (.pointer (some ⟨b, 0, none⟩)) "Write").run Tryd.prog w2 = .ok (some false) w2 := by kernel_rfl
          rw [hna]
          go_simp
          exact ⟨rfl, Below.refl _ _⟩
        · obtain rfl := Option.some.inj ho
          have e0 : vs 0 = _ := hpre 0 (by decide) rfl
          simp only [canon, List.range, List.range.loop, List.foldl]
          go_simp
          exact ⟨rfl, Below.refl _ _⟩
        · omega
      · intro vs w2 hb hr hd
        have e3 : vs 3 = _ := hr 3 (by omega)
        have e6 : vs 6 = _ := hr 6 (by omega)
        simp only [canon, List.range, List.range.loop, List.foldl]
        refine wpAny_last 7 (by kernel_rfl) ?_
        refine wpOp_go rfl rfl ?_
        go_simp
        go_upon
        have hb2 := bel_then (bel_drew (Below.refl _ _)) hb
        have hbw2 := bel_then HW1.out.2 hb2
        refine (bufPut_calls B b [] w.heap.size 0 L 8 _ w2 (HB.out.below hbw2) (HW1.out.1.below hb2) (by have := HB.out.lt; omega) (by have := hbw2.size; have := HX.out.1; omega) (by rw [List.length_nil]; omega)).mono ?_
        rintro e w3 ⟨rfl, h1, h2, h3, h4⟩
        have HK3 : Kp (Buf B b (Lib.uvarint (szSum ss N) ++ joined ss 0) w3 ∧ Below B w w3 ∧ Marked w w3 ∧ Beside b w w3) := ⟨by rw [show joined ss 0 = [] from rfl, List.append_nil]; exact h1, (hbw2.mono HX.out.1).trans h2, (marked_below hbw2).trans h3, Lib.OthersKept.trans (beside_below hbw2) h4⟩
        clear h1 h2 h3 h4 hb hr hd hb2 hbw2 HW1
        simp only
        refine wpAny_last 8 (by kernel_rfl) ?_
        refine wpOp_go rfl rfl ?_
        go_simp
        refine wpAny_two 9 10 (by kernel_rfl) ?_ ?_
        · refine wpOp_go rfl rfl ?_
          go_simp
          refine wpAny_two 10 11 (by kernel_rfl) ?_ ?_
          · refine wpOp_go rfl rfl ?_
            go_simp
            refine wpAny_last 11 (by kernel_rfl) ?_
            refine wpOp_go rfl rfl ?_
            go_simp
            refine wpAny_last 12 (by kernel_rfl) ?_
            refine wpOp_go rfl rfl ?_
            go_simp
            refine wpAny_none (by kernel_rfl) ?_ _
            go_wp2_with fail
            go_loopw [11, 46] (fun ve vk wr => ∃ (k : Nat), k ≤ N ∧ ve = .nilIface ∧ vk = .int .i64 k ∧ Kp (Buf B b (Lib.uvarint (szSum ss N) ++ joined ss k) wr ∧ Below B w wr ∧ Marked w wr ∧ Beside b w wr))
              (fun _ vk _ => N - (intOf vk).toNat)
            case atStart => exact ⟨0, by omega, rfl, rfl, HK3⟩
            case round =>
              obtain ⟨k, hkN, rfl, rfl, hK⟩ := hrel
              by_cases hk : k < N
              · obtain ⟨s, x, hs, hx, hpv⟩ := HP.out.2 k hk
                obtain ⟨h, cap2, cs2, fz, rfl, hh1, hh2, hh3⟩ := hpv.marked hK.out.2.2.1
                have hrow := Beside.blk hK.out.2.2.2 HR.out.1 HR.out.2.1 (by decide)
                have hcell := blk_cell hrow k
                rw [HR.out.2.2.2 k hk, hx] at hcell
                have hm : ∀ W, (method 280 83 (.pointer (some ⟨b, 0, none⟩)) "Write").run Tryd.prog W = .ok (98, .pointer (some ⟨b, 0, none⟩)) W := fun _ => by kernel_rfl
                have hhb : h ≠ b := by
                  rintro rfl
                  obtain ⟨_, _, hbk, _⟩ := hK.out.1.2
                  rw [hbk] at hh1
                  injection hh1 with hh1
                  injection hh1 with _ _ hh1
                  exact hh2 hh1.symm
                have hsz := HX.out.2.2.2 s (List.mem_of_getElem? hs)
                have hjl := joined_len ss k
                have hml := szSum_le ss HX.out.2.2.2 k
                have hul := HL.out
                have HW := Kp.mk (bufPut_calls B b _ h 0 _ _ (bl s) wr hK.out.1 hh3 hhb (by have := hK.out.2.1.size; have := HX.out.1; omega) (by rw [List.length_append, hjl, bl_length]; have := HX.out.2.2.1; have := HNe.out; omega))
                have hj1 := Kp.mk (joined_succ ss k hs)
                clear hh1 hh2 hh3 hrow hhb hsz hjl hml hul hpv
                rw [bl_length] at *
                go_wp2_with fail
                refine HW.out.mono ?_
                rintro e w3 ⟨rfl, h1, h2, h3, h4⟩
                have HK4 : Kp (Buf B b (Lib.uvarint (szSum ss N) ++ joined ss (k + 1)) w3 ∧ Below B w w3 ∧ Marked w w3 ∧ Beside b w w3) := ⟨by rw [hj1.out, ← List.append_assoc]; exact h1, hK.out.2.1.trans h2, hK.out.2.2.1.trans h3, Lib.OthersKept.trans hK.out.2.2.2 h4⟩
                clear h1 h2 h3 h4 HW hcell
                go_wp2
                go_roundw
                case rel => exact ⟨k + 1, by omega, rfl, by go_num, HK4⟩
                case measure => simp only [intOf]; omega
              · obtain rfl : k = N := by omega
                go_wp2
                go_ret
                exact ⟨rfl, hK.out⟩
          · refine wpOp_go rfl rfl ?_
            go_simp
            refine wpAny_last 10 (by kernel_rfl) ?_
            refine wpOp_go rfl rfl ?_
            go_simp
            refine wpAny_last 12 (by kernel_rfl) ?_
            refine wpOp_go rfl rfl ?_
            go_simp
            refine wpAny_none (by kernel_rfl) ?_ _
            go_wp2_with fail
            go_loopw [11, 46] (fun ve vk wr => ∃ (k : Nat), k ≤ N ∧ ve = .nilIface ∧ vk = .int .i64 k ∧ Kp (Buf B b (Lib.uvarint (szSum ss N) ++ joined ss k) wr ∧ Below B w wr ∧ Marked w wr ∧ Beside b w wr))
              (fun _ vk _ => N - (intOf vk).toNat)
            case atStart => exact ⟨0, by omega, rfl, rfl, HK3⟩
            case round =>
              obtain ⟨k, hkN, rfl, rfl, hK⟩ := hrel
              by_cases hk : k < N
              · obtain ⟨s, x, hs, hx, hpv⟩ := HP.out.2 k hk
                obtain ⟨h, cap2, cs2, fz, rfl, hh1, hh2, hh3⟩ := hpv.marked hK.out.2.2.1
                have hrow := Beside.blk hK.out.2.2.2 HR.out.1 HR.out.2.1 (by decide)
                have hcell := blk_cell hrow k
                rw [HR.out.2.2.2 k hk, hx] at hcell
                have hm : ∀ W, (method 280 83 (.pointer (some ⟨b, 0, none⟩)) "Write").run Tryd.prog W = .ok (98, .pointer (some ⟨b, 0, none⟩)) W := fun _ => by kernel_rfl
                have hhb : h ≠ b := by
                  rintro rfl
                  obtain ⟨_, _, hbk, _⟩ := hK.out.1.2
                  rw [hbk] at hh1
                  injection hh1 with hh1
                  injection hh1 with _ _ hh1
                  exact hh2 hh1.symm
                have hsz := HX.out.2.2.2 s (List.mem_of_getElem? hs)
                have hjl := joined_len ss k
                have hml := szSum_le ss HX.out.2.2.2 k
                have hul := HL.out
                have HW := Kp.mk (bufPut_calls B b _ h 0 _ _ (bl s) wr hK.out.1 hh3 hhb (by have := hK.out.2.1.size; have := HX.out.1; omega) (by rw [List.length_append, hjl, bl_length]; have := HX.out.2.2.1; have := HNe.out; omega))
                have hj1 := Kp.mk (joined_succ ss k hs)
                clear hh1 hh2 hh3 hrow hhb hsz hjl hml hul hpv
                rw [bl_length] at *
                go_wp2_with fail
                refine HW.out.mono ?_
                rintro e w3 ⟨rfl, h1, h2, h3, h4⟩
                have HK4 : Kp (Buf B b (Lib.uvarint (szSum ss N) ++ joined ss (k + 1)) w3 ∧ Below B w w3 ∧ Marked w w3 ∧ Beside b w w3) := ⟨by rw [hj1.out, ← List.append_assoc]; exact h1, hK.out.2.1.trans h2, hK.out.2.2.1.trans h3, Lib.OthersKept.trans hK.out.2.2.2 h4⟩
                clear h1 h2 h3 h4 HW hcell
                go_wp2
                go_roundw
                case rel => exact ⟨k + 1, by omega, rfl, by go_num, HK4⟩
                case measure => simp only [intOf]; omega
              · obtain rfl : k = N := by omega
                go_wp2
                go_ret
                exact ⟨rfl, hK.out⟩
        · refine wpOp_go rfl rfl ?_
          go_simp
          refine wpAny_last 9 (by kernel_rfl) ?_
          refine wpOp_go rfl rfl ?_
          go_simp
          refine wpAny_last 11 (by kernel_rfl) ?_
          refine wpOp_go rfl rfl ?_
          go_simp
          refine wpAny_last 12 (by kernel_rfl) ?_
          refine wpOp_go rfl rfl ?_
          go_simp
          refine wpAny_none (by kernel_rfl) ?_ _
          go_wp2_with fail
          go_loopw [11, 46] (fun ve vk wr => ∃ (k : Nat), k ≤ N ∧ ve = .nilIface ∧ vk = .int .i64 k ∧ Kp (Buf B b (Lib.uvarint (szSum ss N) ++ joined ss k) wr ∧ Below B w wr ∧ Marked w wr ∧ Beside b w wr))
            (fun _ vk _ => N - (intOf vk).toNat)
          case atStart => exact ⟨0, by omega, rfl, rfl, HK3⟩
          case round =>
            obtain ⟨k, hkN, rfl, rfl, hK⟩ := hrel
            by_cases hk : k < N
            · obtain ⟨s, x, hs, hx, hpv⟩ := HP.out.2 k hk
              obtain ⟨h, cap2, cs2, fz, rfl, hh1, hh2, hh3⟩ := hpv.marked hK.out.2.2.1
              have hrow := Beside.blk hK.out.2.2.2 HR.out.1 HR.out.2.1 (by decide)
              have hcell := blk_cell hrow k
              rw [HR.out.2.2.2 k hk, hx] at hcell
              have hm : ∀ W, (method 280 83 (.pointer (some ⟨b, 0, none⟩)) "Write").run Tryd.prog W = .ok (98, .pointer (some ⟨b, 0, none⟩)) W := fun _ => by kernel_rfl
              have hhb : h ≠ b := by
                rintro rfl
                obtain ⟨_, _, hbk, _⟩ := hK.out.1.2
                rw [hbk] at hh1
                injection hh1 with hh1
                injection hh1 with _ _ hh1
                exact hh2 hh1.symm
              have hsz := HX.out.2.2.2 s (List.mem_of_getElem? hs)
              have hjl := joined_len ss k
              have hml := szSum_le ss HX.out.2.2.2 k
              have hul := HL.out
              have HW := Kp.mk (bufPut_calls B b _ h 0 _ _ (bl s) wr hK.out.1 hh3 hhb (by have := hK.out.2.1.size; have := HX.out.1; omega) (by rw [List.length_append, hjl, bl_length]; have := HX.out.2.2.1; have := HNe.out; omega))
              have hj1 := Kp.mk (joined_succ ss k hs)
              clear hh1 hh2 hh3 hrow hhb hsz hjl hml hul hpv
              rw [bl_length] at *
              go_wp2_with fail
              refine HW.out.mono ?_
              rintro e w3 ⟨rfl, h1, h2, h3, h4⟩
              have HK4 : Kp (Buf B b (Lib.uvarint (szSum ss N) ++ joined ss (k + 1)) w3 ∧ Below B w w3 ∧ Marked w w3 ∧ Beside b w w3) := ⟨by rw [hj1.out, ← List.append_assoc]; exact h1, hK.out.2.1.trans h2, hK.out.2.2.1.trans h3, Lib.OthersKept.trans hK.out.2.2.2 h4⟩
              clear h1 h2 h3 h4 HW hcell
              go_wp2
              go_roundw
              case rel => exact ⟨k + 1, by omega, rfl, by go_num, HK4⟩
              case measure => simp only [intOf]; omega
            · obtain rfl : k = N := by omega
              go_wp2
              go_ret
              exact ⟨rfl, hK.out⟩

end Go.Proofs.YtdppnlomhlnbkaaDoor
