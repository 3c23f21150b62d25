/- The walk of (*index.multiWidthIndex).Load of one record. -/
import Derived.Test.YtnhnkfdhkifahaaGreatDoorDig0
import Derived.WideMake
namespace Go.Proofs.YtnhnkfdhkifahaaGreatDoor
open Go.RowKit
open Go.ChangeMaps (setBlock)

/-- What has cells stays. -/
def Keeps (w w' : World) : Prop := ∀ j i, (w.cell? ⟨j, i, none⟩).isSome = true → w'.heap[j]? = w.heap[j]?
theorem Keeps.cell {w w' : World} (h : Keeps w w') {j i : Nat} {v : Value} (hc : w.cell? ⟨j, i, none⟩ = some v) : w'.cell? ⟨j, i, none⟩ = some v :=
  (World.cell?_of_block (a := ⟨j, i, none⟩) (h j i (by rw [hc]; rfl))).trans hc
theorem Keeps.trans {a b c : World} (h : Keeps a b) (k : Keeps b c) : Keeps a c := fun j i hc => by
  cases hv : a.cell? ⟨j, i, none⟩ with
  | none => rw [hv] at hc; cases hc
  | some v => exact (k j i (by rw [h.cell hv]; rfl)).trans (h j i hc)
theorem Keeps.rd {w w' : World} (h : Keeps w w') {A : Option Addr} {n c : Nat} {bs : List UInt8} (hr : RdB w A n c bs) : RdB w' A n c bs :=
  ⟨hr.len, hr.cap, hr.most, fun h0 => by
    obtain ⟨g, o, e, hc⟩ := hr.lies h0
    exact ⟨g, o, e, fun i hi => h.cell (hc i hi)⟩⟩
theorem keeps_below {w w' : World} (h : Below w.heap.size w w') : Keeps w w' := fun j i hc => by
  cases hv : w.cell? ⟨j, i, none⟩ with
  | none => rw [hv] at hc; cases hc
  | some v => exact h.block j (World.block_lt_of_cell? w _ hv)
theorem keeps_map {w : World} {a : Nat} {es : Array MapEntry} {k : Nat} (ha : w.heap[a]? = some (.map es k)) (o' : Obj) : Keeps w (setBlock w a o') := fun j i hc => by
  refine set_far _ ?_
  rintro rfl
  simp [World.cell?, ha] at hc
theorem keeps_row {w w' : World} {g : Nat} {t : TypeId} (hg : w.heap[g]? = some (.cells #[] t (0, 0))) (h : ∀ j, j < w.heap.size → j ≠ g → w'.heap[j]? = w.heap[j]?) : Keeps w w' := fun j i hc => by
  cases hv : w.cell? ⟨j, i, none⟩ with
  | none => rw [hv] at hc; cases hc
  | some v =>
    refine h j (World.block_lt_of_cell? w _ hv) ?_
    rintro rfl
    rw [blk_cell hg] at hv
    simp at hv

theorem cutAll (t : TypeId) (ht : Tryz.prog.underlying t = some (.slice 5)) (g n : Nat) (hn : 0 < n) (W : World) :
    (Instr.slice t (.slice (some ⟨g, 0, none⟩) n n) (some (.int .i64 0)) (some (.int .i64 (n : Int))) none).run Tryz.prog W = .ok (.slice (some ⟨g, 0, none⟩) n n) W := by
  obtain ⟨i, hi, _, hs, _⟩ := info_parts info_u8
  have hel : Tryz.prog.elem t = 5 := by simp [Program.elem, ht]
  have hu : Tryz.prog.underlying t = some (.slice (Tryz.prog.elem t)) := by rw [hel]; exact ht
  rw [run_slice_lh W t _ n n hu .i64 .i64 0 (n : Int) (by omega) (by omega) (by omega), hel]
  have hne : ¬ n = 0 := by omega
  simp [sizeOf, typeInfo, hi, hs, sliced, Result.andThen, add_plain, hne]
/-- What the inner line's operations leave. -/
def mlR (gI N n c off : Nat) (A : Option Addr) (j : Nat) (v : Value) (_ : World) : Prop :=
  match j with
  | 0 => v = .agg #[.slice A n c, .int .u64 off]
  | 1 => v = .slice (some ⟨gI, 0, none⟩) N N
  | 2 => v = .int .i64 0
  | 3 => v = .int .i64 N
  | 4 => v = .int .i64 0
  | 5 => v = .int .i64 0
  | 6 => v = .int .i64 1
  | 7 => v = .int .i64 N
  | 8 => v = .int .i64 N
  | _ => v = .slice (some ⟨gI, 0, none⟩) N N
/-- What the last line's operations leave. -/
def mlR2 (ip gm n N : Nat) (S : Value) (j : Nat) (v : Value) (_ : World) : Prop :=
  match j with
  | 0 => v = .pointer (some ⟨ip, 0, none⟩)
  | 1 => v = .pointer (some ⟨ip, 0, none⟩)
  | 2 => v = .map (some gm)
  | 3 => v = .int .i64 n
  | 4 => v = .int .u32 n
  | 5 => v = .int .u32 N
  | _ => v = S

set_option maxHeartbeats 16000000 in
set_option maxRecDepth 100000 in
theorem mwLoad_calls (ip gm clk0 gi oi ci v codec code off : Nat) (s : ByteArray) (w : World) (hip : w.cell? ⟨ip, 0, none⟩ = some (.map (some gm))) (hgm : w.heap[gm]? = some (.map #[] clk0)) (hi0 : w.cell? ⟨gi, oi, none⟩ = some (.string (strB (cidB v codec code s)))) (hi1 : w.cell? ⟨gi, oi + 1, none⟩ = some (.int .u64 off)) (h : Tidy v codec code s) (hs : s.size ≤ 1000) (hoff : off < 2 ^ 64) (he : MhErrs w) :
    Calls Tryz.prog 63 #[.pointer (some ⟨ip, 0, none⟩), .slice (some ⟨gi, oi, none⟩) 1 ci] w fun e w' => e = .returned .nilIface ∧
      (∃ gI, w.heap.size ≤ gI ∧ w'.heap[gm]? = some (.map #[⟨.int .u32 ((s.size + 8 : Nat) : Int), .agg #[.int .u32 ((s.size + 8 : Nat) : Int), .int .u64 1, .slice (some ⟨gI, 0, none⟩) (s.size + 8) (s.size + 8)], clk0⟩] (clk0 + 1)) ∧ RdB w' (some ⟨gI, 0, none⟩) (s.size + 8) (s.size + 8) (bl s ++ Lib.leBytes 8 off)) ∧ Ex (· = gm) w w' := by
  have hlb := bl_length s
  have hmh : mhRead (mhBytes code (bl s)) = some (code, bl s, (mhBytes code (bl s)).length) := by
    have := mhRead_mhBytes (code := code) (d := bl s) [] (by rcases h with ⟨_, _, rfl, _⟩ | ⟨_, _, h⟩ <;> omega) (by omega)
    rwa [List.append_nil] at this
  have hmn : (mhBytes code (bl s)).length ≤ 2147483647 := by
    have a := Lib.uvarint_length64 (x := code) (by rcases h with ⟨_, _, rfl, _⟩ | ⟨_, _, h⟩ <;> omega)
    have b := Lib.uvarint_length64 (x := (bl s).length) (by omega)
    simp only [mhBytes, List.length_append]
    omega
  have HH := Kp.mk (fun w he => tHash_calls v codec code s w h (by omega) he)
  obtain ⟨S, hS⟩ : ∃ S, S = strB (cidB v codec code s) := ⟨_, rfl⟩
  rw [← hS] at HH hi0
  obtain ⟨n, hn⟩ : ∃ n, n = s.size := ⟨_, rfl⟩
  obtain ⟨ds, hds⟩ : ∃ ds, ds = bl s := ⟨_, rfl⟩
  rw [← hn, ← hds]
  rw [← hds] at HH hmh hmn hlb
  rw [← hn] at hlb hs
  have hgml := (Array.getElem?_eq_some_iff.1 hgm).1
  have hal := bel_alloc (Below.refl w.heap.size w) (.map #[] 0)
  have HM := Kp.mk (And.intro hmh (And.intro hmn (And.intro hlb (And.intro hs hoff))))
  have HG := Kp.mk (And.intro hip (And.intro hgm (And.intro hgml he)))
  have c0 := cell_bel hal hi0
  have c1 := cell_bel hal hi1
  have HB1 := Kp.mk (bel_alloc hal (.cells #[.string S, .int .u64 off] 48))
  have HA1 := Kp.mk (blk_new (w := w) (o := .map #[] 0) (bel_alloc (Below.refl _ _) (.cells #[.string S, .int .u64 off] 48)))
  have HR1 := Kp.mk (blk_new2 (w := w) (o := .map #[] 0) (o2 := .cells #[.string S, .int .u64 off] 48) (Below.refl _ _))
  clear hmh hmn hlb hs hoff hip hgm hgml he hal hi0 hi1 h hS hn hds
  have hmap := fun (W : World) => run_makeMap_plain (P := Tryz.prog) W 142
  go_enter Tryz.func63, Tryz.ntmps63
  go_wp2_with fail
  clear hmap
  refine wp_loop_rounds 2 ?_
  rw [rounds_succ]
  go_wp2_with fail
  clear c0 c1
  refine (HH.out _ (HG.out.2.2.2.below HB1.out)).mono ?_
  rintro e u2 ⟨⟨A, nh, c, rfl, hr⟩, hb⟩
  have hnh := hr.len
  have HB2 := Kp.mk (bel_then HB1.out hb)
  have HA2 := Kp.mk (blk_keep HA1.out hb)
  have HR2 := Kp.mk (blk_keep HR1.out hb)
  have HD := Kp.mk (decodeP_calls A nh c _ u2 hr (HG.out.2.2.2.below HB2.out) (by have := HM.out.2.1; omega))
  have HRM := Kp.mk hr
  clear hr hb HH HA1 HR1 HB1 hnh
  go_wp2_with fail
  refine HD.out.mono ?_
  rintro e u3 ⟨hu, hb⟩
  unfold DdEnd at hu
  rw [HM.out.1] at hu
  simp only [if_true] at hu
  obtain ⟨gd, A', c', rfl, hgd, hblk, hp⟩ := hu
  have HB3 := Kp.mk (bel_then HB2.out hb)
  have ha3 := blk_keep HA2.out hb
  have HR3 := Kp.mk (blk_keep HR2.out hb)
  have HDR := Kp.mk (hp u3 (HRM.out.below hb))
  have c3 := blk_cell hblk 3
  rw [HM.out.2.2.1] at HDR c3
  clear hb hblk hp HD HA2 HR2 HRM HB2 hgd
  have HLN : Kp ((Instr.lookup 142 (.map (some w.heap.size)) (.int .i64 (n : Int)) true).run Tryz.prog u3 = .ok (.tuple #[.slice none 0 0, .bool false]) u3) := ⟨look_none (P := Tryz.prog) Tryz.underlying142 Tryz.underlying3 ha3 _ (zeroDigs u3) true⟩
  have hsz3 := HB3.out.size
  have hl3 := (Array.getElem?_eq_some_iff.1 ha3).1
  have hal3 := bel_alloc (Below.refl u3.heap.size u3) (.cells #[] 146)
  have ha4 := blk_keep ha3 hal3
  have hs4 : (u3.alloc (.cells #[] 146)).heap[u3.heap.size]? = some (.cells #[] 146 (0, 0)) := blk_new (Below.refl _ _)
  obtain ⟨u5, hu5⟩ : ∃ W, W = setBlock (u3.alloc (.cells #[] 146)) w.heap.size (.map #[⟨.int .i64 (n : Int), .slice (some ⟨u3.heap.size, 0, none⟩) 0 0, 0⟩] 1) := ⟨_, rfl⟩
  have HU1 : Kp ((Instr.mapUpdate 142 (.map (some w.heap.size)) (.int .i64 (n : Int)) (.slice (some ⟨u3.heap.size, 0, none⟩) 0 0)).run Tryz.prog (u3.alloc (.cells #[] 146)) = .ok () u5) := ⟨by rw [hu5]; exact upd_none (P := Tryz.prog) Tryz.underlying142 Tryz.underlying3 ha4 _⟩
  have ha5 : u5.heap[w.heap.size]? = some (.map #[⟨.int .i64 (n : Int), .slice (some ⟨u3.heap.size, 0, none⟩) 0 0, 0⟩] 1) := by rw [hu5]; exact set_same _ ha4
  have hs5 : u5.heap[u3.heap.size]? = some (.cells #[] 146 (0, 0)) := by rw [hu5, set_far _ (by omega)]; exact hs4
  have hk5 : Keeps u3 u5 := (keeps_below hal3).trans (by rw [hu5]; exact keeps_map ha4 _)
  have hb5 : Below w.heap.size w u5 := by rw [hu5]; exact bel_setBlock (bel_then HB3.out hal3) (Nat.le_refl _) _
  have hz5 : u5.heap.size = u3.heap.size + 1 := by rw [hu5, set_size]; simp [World.alloc, -World.alloc_eq]
  have HL1 : Kp ((Instr.lookup 142 (.map (some w.heap.size)) (.int .i64 (n : Int)) false).run Tryz.prog u5 = .ok (.slice (some ⟨u3.heap.size, 0, none⟩) 0 0) u5) := ⟨look_one (P := Tryz.prog) Tryz.underlying142 Tryz.underlying3 _ 0 ha5 false⟩
  have hal5 := bel_alloc (Below.refl u5.heap.size u5) (.cells #[.slice A' n c', .int .u64 off] 146)
  obtain ⟨ga, cap', u7, hap, hga0, hga1, hsz7, hb67, hbk7⟩ := appDig (u5.alloc (.cells #[.slice A' n c', .int .u64 off] 146)) u3.heap.size u5.heap.size n c' off A' (blk_keep hs5 hal5) (blk_new (w := u5) (o := .cells #[.slice A' n c', .int .u64 off] 146) (Below.refl _ _))
  have hk7 : Keeps u3 u7 := hk5.trans ((keeps_below hal5).trans (keeps_row (blk_keep hs5 hal5) hbk7))
  have hb7 : Below w.heap.size w u7 := (bel_then hb5 hal5).trans (hb67.mono (by omega))
  have ha7 : u7.heap[w.heap.size]? = some (.map #[⟨.int .i64 (n : Int), .slice (some ⟨u3.heap.size, 0, none⟩) 0 0, 0⟩] 1) := by rw [hbk7 _ (by have := hal5.size; omega) (by omega)]; exact blk_keep ha5 hal5
  obtain ⟨u8, hu8⟩ : ∃ W, W = setBlock u7 w.heap.size (.map #[⟨.int .i64 (n : Int), .slice (some ⟨ga, 0, none⟩) 1 cap', 0⟩] 1) := ⟨_, rfl⟩
  have HU2 : Kp ((Instr.mapUpdate 142 (.map (some w.heap.size)) (.int .i64 (n : Int)) (.slice (some ⟨ga, 0, none⟩) 1 cap')).run Tryz.prog u7 = .ok () u8) := ⟨by rw [hu8]; exact upd_one (P := Tryz.prog) Tryz.underlying142 Tryz.underlying3 _ _ 0 ha7⟩
  have ha8 : u8.heap[w.heap.size]? = some (.map #[⟨.int .i64 (n : Int), .slice (some ⟨ga, 0, none⟩) 1 cap', 0⟩] 1) := by rw [hu8]; exact set_same _ ha7
  have hk78 : Keeps u7 u8 := by rw [hu8]; exact keeps_map ha7 _
  have HK8 := Kp.mk (And.intro (hk78.cell hga0) (And.intro (hk78.cell hga1) ((hk7.trans hk78).rd HDR.out)))
  have hb8 : Below w.heap.size w u8 := by rw [hu8]; exact bel_setBlock hb7 (Nat.le_refl _) _
  have HA8 := Kp.mk (And.intro ha8 hb8)
  have HAP := Kp.mk hap
  have hmk := mkDig0
  have cr := blk_cell HR3.out 1
  have cr5 : u5.cell? ⟨w.heap.size + 1, 1, none⟩ = some (.int .u64 off) := hk5.cell cr
  clear ha3 hsz3 hl3 hal3 ha4 hs4 hu5 ha5 hs5 hk5 hb5 hz5 hal5 hap hga0 hga1 hsz7 hb67 hbk7 hk7 hb7 ha7 hu8 ha8 hk78 hb8 cr
  go_wp2_with (first | (at_lookup; refine wpList_lookup_run _ rfl _ _ _ _ rfl _ _ _ rfl rfl HLN.out ?_) | (at_lookup; refine wpList_lookup_run _ rfl _ _ _ _ rfl _ _ _ rfl rfl HL1.out ?_) | (at_mapUpdate; refine wpList_mapUpdate_run _ rfl _ _ _ _ rfl _ _ _ _ rfl rfl rfl HU1.out ?_) | (at_mapUpdate; refine wpList_mapUpdate_run _ rfl _ _ _ _ rfl _ _ _ _ rfl rfl rfl HU2.out ?_) | (at_builtin; refine Lib.wpList_append_run _ rfl _ _ _ _ rfl _ _ rfl rfl _ _ HAP.out ?_))
  clear HLN HL1 HU1 HU2 HAP hmk cr5 c3
  obtain ⟨ri, hri⟩ : ∃ r, r = u8.heap.size := ⟨_, rfl⟩
  obtain ⟨u9, hu9⟩ : ∃ W, W = u8.alloc (.mapIter (some w.heap.size) 1 #[] 1) := ⟨_, rfl⟩
  have HRG : Kp ((Instr.range 142 (.map (some w.heap.size))).run Tryz.prog u8 = .ok (.pointer (some ⟨ri, 0, none⟩)) u9) := ⟨by rw [hu9, hri]; exact run_range_map _ _ _ _ _ _ 1 Tryz.underlying142 HA8.out.1⟩
  have hb89 : Below u8.heap.size u8 u9 := by rw [hu9]; exact bel_alloc (Below.refl _ _) _
  have hr9 : u9.heap[ri]? = some (.mapIter (some w.heap.size) 1 #[] 1) := by rw [hu9, hri]; exact blk_new (Below.refl _ _)
  have ha9 := blk_keep HA8.out.1 hb89
  have hsz8 := HA8.out.2.size
  have hl8 := (Array.getElem?_eq_some_iff.1 HA8.out.1).1
  obtain ⟨u10, hu10⟩ : ∃ W, W = setBlock u9 ri (.mapIter (some w.heap.size) 1 #[0] 1) := ⟨_, rfl⟩
  have HNX : Kp (∀ ty, (Instr.next (.pointer (some ⟨ri, 0, none⟩)) false ty).run Tryz.prog u9 = .ok (.tuple #[.bool true, .int .i64 (n : Int), .slice (some ⟨ga, 0, none⟩) 1 cap']) u10) := ⟨fun ty => by rw [hu10]; exact next_one ty ri _ _ 0 hr9 ha9 (by omega)⟩
  have hb810 : Below u8.heap.size u8 u10 := by rw [hu10]; exact bel_setBlock hb89 (by omega) _
  have hr10 : u10.heap[ri]? = some (.mapIter (some w.heap.size) 1 #[0] 1) := by rw [hu10]; exact set_same _ hr9
  have ha10 := blk_keep HA8.out.1 hb810
  have hen := entry_one (P := Tryz.prog) ri _ _ 0 hr10 ha10
  have H10 := Kp.mk (And.intro hr10 (And.intro ha10 (bel_then HA8.out.2 hb810)))
  have HK10 := Kp.mk (And.intro ((keeps_below hb810).cell HK8.out.1) (And.intro ((keeps_below hb810).cell HK8.out.2.1) ((keeps_below hb810).rd HK8.out.2.2)))
  clear hri hu9 hb89 hr9 ha9 hsz8 hl8 hu10 hb810 hr10 ha10
  rw [rounds_succ]
  go_wp2_with (first | (at_range; refine wpList_range_run _ rfl _ _ rfl _ _ _ rfl HRG.out ?_))
  clear HRG
  refine wp_loop_rounds 2 ?_
  rw [rounds_succ]
  go_wp2_with (first | (at_next; refine wpList_next_run _ rfl _ rfl _ _ _ rfl (HNX.out _) ?_))
  clear HNX hen
  refine (sortSet1_calls _ _ u10).mono ?_
  rintro e u11 ⟨rfl, hb⟩
  have H11 := Kp.mk (And.intro (blk_keep H10.out.1 hb) (And.intro (blk_keep H10.out.2.1 hb) (bel_then H10.out.2.2 hb)))
  have HK11 := Kp.mk (And.intro ((keeps_below hb).cell HK10.out.1) (And.intro ((keeps_below hb).cell HK10.out.2.1) ((keeps_below hb).rd HK10.out.2.2)))
  clear hb H10 HK10
  obtain ⟨N, hN⟩ : ∃ N, N = n + 8 := ⟨_, rfl⟩
  have HNN := Kp.mk hN
  have hNi : (n : Int) + 8 = (N : Int) := by omega
  have hwN : wrap64 (N : Int) = N := by have := HM.out.2.2.2.1; unfold wrap64; omega
  have hmk := fun W => mk_bytes 33 Tryz.underlying33 N (by have := HM.out.2.2.2.1; omega) W
  clear hN
  have hal := bel_alloc (Below.refl u11.heap.size u11) (.cells (zeros N) 5)
  have cg0 := cell_bel hal HK11.out.1
  have cg1 := cell_bel hal HK11.out.2.1
  clear hal
  go_wp2_with fail
  clear hmk
  obtain ⟨gI, hgI⟩ : ∃ g, g = u11.heap.size := ⟨_, rfl⟩
  have HGI : Kp (w.heap.size < gI ∧ ri < gI ∧ ga < gI) := ⟨by have h1 := H11.out.2.2.size; have h4 := (Array.getElem?_eq_some_iff.1 H11.out.2.1).1; have h2 := (Array.getElem?_eq_some_iff.1 H11.out.1).1; have h3 := World.block_lt_of_cell? u11 _ HK11.out.1; have h3 : ga < u11.heap.size := h3; omega⟩
  have hal := bel_alloc (Below.refl u11.heap.size u11) (.cells (zeros N) 5)
  have hal2 := bel_alloc hal (.cells #[.slice A' n c', .int .u64 off] 146)
  have HG13 : Kp (((u11.alloc (.cells (zeros N) 5)).alloc (.cells #[.slice A' n c', .int .u64 off] 146)).heap[gI]? = some (.cells (zeros N) 5 (0, 0))) := ⟨by rw [hgI]; exact blk_new (bel_alloc (Below.refl _ _) _)⟩
  have HX13 : Kp (((u11.alloc (.cells (zeros N) 5)).alloc (.cells #[.slice A' n c', .int .u64 off] 146)).heap[gI + 1]? = some (.cells #[.slice A' n c', .int .u64 off] 146 (0, 0))) := ⟨by rw [hgI]; exact blk_new2 (Below.refl _ _)⟩
  have H13 := Kp.mk (And.intro (blk_keep H11.out.1 hal2) (And.intro (blk_keep H11.out.2.1 hal2) (And.intro (bel_then H11.out.2.2 hal2) ((keeps_below hal2).rd HK11.out.2.2))))
  rw [← hgI]
  clear hal hal2
  refine wp_loop_rounds 2 ?_
  rw [rounds_succ]
  go_wp2_with fail
  rw [← hgI]
  clear hgI cg0 cg1 HK11 H11
  generalize (u11.alloc (.cells (zeros N) 5)).alloc (.cells #[.slice A' n c', .int .u64 off] 146) = u13 at *
  refine wp_region_growR (fun u u' => Below u.heap.size u u') (fun _ => Below.refl _ _) (fun _ _ _ h k => bel_then h k) (by kernel_rfl) 10 (by decide) (apart_of (by kernel_rfl)) (by kernel_rfl) (mlR gI N n c' off A') (fun _ _ _ _ => True) (fun _ _ _ _ h _ => by unfold mlR at *; exact h) ?_ ?_
  · intro j hj ob ho vs w5 hb5 hpre
    have hx5 := blk_keep HX13.out (bel_then (bel_drew (Below.refl u13.heap.size u13)) hb5)
    have cx0 := blk_cell hx5 0
    have cx1 := blk_cell hx5 1
    clear hb5 hx5
    rcases j with _ | _ | _ | _ | _ | _ | _ | _ | _ | _ | j
    · obtain rfl := Option.some.inj ho
      simp only [canon, List.range, List.range.loop, List.foldl]
      go_simp
      exact ⟨rfl, Below.refl _ _⟩
    · obtain rfl := Option.some.inj ho
      simp only [canon, List.range, List.range.loop, List.foldl]
      go_simp
      exact ⟨rfl, Below.refl _ _⟩
    · obtain rfl := Option.some.inj ho
      simp only [canon, List.range, List.range.loop, List.foldl]
      go_simp
      exact ⟨rfl, Below.refl _ _⟩
    · obtain rfl := Option.some.inj ho
      simp only [canon, List.range, List.range.loop, List.foldl]
      go_simp
      exact ⟨rfl, Below.refl _ _⟩
    · have e2 : vs 2 = _ := hpre 2 (by decide) (by obtain rfl := Option.some.inj ho; rfl)
      have e3 : vs 3 = _ := hpre 3 (by decide) (by obtain rfl := Option.some.inj ho; rfl)
      obtain rfl := Option.some.inj ho
      simp only [canon, List.range, List.range.loop, List.foldl]
      go_simp
      exact ⟨rfl, Below.refl _ _⟩
    · obtain rfl := Option.some.inj ho
      simp only [canon, List.range, List.range.loop, List.foldl]
      go_simp
      exact ⟨rfl, Below.refl _ _⟩
    · have e5 : vs 5 = _ := hpre 5 (by decide) (by obtain rfl := Option.some.inj ho; rfl)
      obtain rfl := Option.some.inj ho
      simp only [canon, List.range, List.range.loop, List.foldl]
      go_simp
      exact ⟨rfl, Below.refl _ _⟩
    · obtain rfl := Option.some.inj ho
      simp only [canon, List.range, List.range.loop, List.foldl]
      go_simp
      exact ⟨rfl, Below.refl _ _⟩
    · have e6 : vs 6 = _ := hpre 6 (by decide) (by obtain rfl := Option.some.inj ho; rfl)
      have e7 : vs 7 = _ := hpre 7 (by decide) (by obtain rfl := Option.some.inj ho; rfl)
      have hwI : IntKind.i64.wrap (N : Int) = N := by
        have h1 := HNN.out
        have h2 := HM.out.2.2.2.1
        have h3 : (N : Int) % 18446744073709551616 = N := by omega
        simp only [IntKind.wrap, IntKind.bits, IntKind.signed]
        simp only [show (2 : Int) ^ 64 = 18446744073709551616 from rfl, show (2 : Int) ^ (64 - 1) = 9223372036854775808 from rfl, h3]
        rw [if_neg (by simp; omega)]
      obtain rfl := Option.some.inj ho
      simp only [canon, List.range, List.range.loop, List.foldl]
      go_simp
      exact ⟨rfl, Below.refl _ _⟩
    · have e1 : vs 1 = _ := hpre 1 (by decide) (by obtain rfl := Option.some.inj ho; rfl)
      have e4 : vs 4 = _ := hpre 4 (by decide) (by obtain rfl := Option.some.inj ho; rfl)
      have e8 : vs 8 = _ := hpre 8 (by decide) (by obtain rfl := Option.some.inj ho; rfl)
      have hcut := cutAll 33 Tryz.underlying33 gI N (by have := HNN.out; omega)
      obtain rfl := Option.some.inj ho
      simp only [canon, List.range, List.range.loop, List.foldl]
      go_simp
      exact ⟨rfl, Below.refl _ _⟩
    · omega
  · intro vs w5 hb5 hrr _
    have e0 : vs 0 = _ := hrr 0 (by omega)
    have e9 : vs 9 = _ := hrr 9 (by omega)
    have hb135 := bel_then (bel_drew (Below.refl u13.heap.size u13)) hb5
    have hl13 := (Array.getElem?_eq_some_iff.1 HG13.out).1
    have HDW := Kp.mk (digWrite_calls gI N n c' off A' ds w5 (H13.out.2.2.2.below hb135) (blk_keep HG13.out hb135) HNN.out HM.out.2.2.2.2 (by have := HM.out.2.2.2.1; omega))
    have H5 := Kp.mk (And.intro (blk_keep H13.out.1 hb135) (And.intro (blk_keep H13.out.2.1 hb135) (bel_then H13.out.2.2.1 hb135)))
    clear hb5 hrr hb135 hl13 H13 HG13 HX13
    simp only [canon, List.range, List.range.loop, List.foldl]
    refine wpAny_last 10 (by kernel_rfl) ?_
    refine wpOp_go rfl rfl ?_
    go_simp
    refine HDW.out.mono ?_
    rintro e w6 ⟨rfl, ⟨arr, hg6, harr⟩, hs6, hf6⟩
    have hfI := hf6 gI (Nat.le_refl _)
    have hrd : RdB w6 (some ⟨gI, 0, none⟩) N N (ds ++ Lib.leBytes 8 off) := by
      have := rd_of_blk (bs := ds ++ Lib.leBytes 8 off) hg6 harr (by rw [List.length_append, Lib.leBytes_length, HM.out.2.2.1]; have := HM.out.2.2.2.1; omega)
      rw [List.length_append, Lib.leBytes_length, HM.out.2.2.1, ← HNN.out] at this
      exact this
    have H6 := Kp.mk (And.intro ((hfI.block _ HGI.out.2.1).trans H5.out.1) (And.intro ((hfI.block _ HGI.out.1).trans H5.out.2.1) (And.intro (H5.out.2.2.trans (hf6 _ (Nat.le_of_lt HGI.out.1))) hrd)))
    clear hfI hrd hg6 harr hs6 hf6 HDW H5 e0 e9
    have hw32 : IntKind.u32.wrap (N : Int) = N := by
      have h1 := HNN.out
      have h2 := HM.out.2.2.2.1
      have h3 : (N : Int) % 4294967296 = N := by omega
      simp only [IntKind.wrap, IntKind.bits, IntKind.signed]
      simp only [show (2 : Int) ^ 32 = 4294967296 from rfl, h3]
      simp
    simp only
    refine wpAny_none (by kernel_rfl) ?_ _
    go_wp2_with fail
    rw [rounds_succ]
    go_wp2_with fail
    have hal := bel_alloc (Below.refl w6.heap.size w6) (.cells #[.int .u32 N, .int .u64 1, .slice (some ⟨gI, 0, none⟩) N N] 151)
    have HS15 := Kp.mk (blk_new (w := w6) (o := .cells #[.int .u32 N, .int .u64 1, .slice (some ⟨gI, 0, none⟩) N N] 151) (Below.refl _ _))
    have H15 := Kp.mk (And.intro (blk_keep H6.out.1 hal) (And.intro (blk_keep H6.out.2.1 hal) (And.intro (bel_then H6.out.2.2.1 hal) (H6.out.2.2.2.below hal))))
    obtain ⟨sb, hsb⟩ : ∃ q, q = w6.heap.size := ⟨_, rfl⟩
    rw [← hsb] at HS15 ⊢
    clear hal hsb H6
    generalize w6.alloc (.cells #[.int .u32 N, .int .u64 1, .slice (some ⟨gI, 0, none⟩) N N] 151) = u15 at *
    refine wp_region_growR (fun u u' => Below u.heap.size u u') (fun _ => Below.refl _ _) (fun _ _ _ h k => bel_then h k) (by kernel_rfl) 7 (by decide) (apart_of (by kernel_rfl)) (by kernel_rfl) (mlR2 ip gm n N (.agg #[.int .u32 N, .int .u64 1, .slice (some ⟨gI, 0, none⟩) N N])) (fun _ _ _ _ => True) (fun _ _ _ _ h _ => by unfold mlR2 at *; exact h) ?_ ?_
    · intro j hj ob ho vs w7 hb7 hpre
      have hb := bel_then (bel_drew (Below.refl u15.heap.size u15)) hb7
      have ci := cell_bel (bel_then H15.out.2.2.1 hb) HG.out.1
      have cs0 := blk_cell (blk_keep HS15.out hb) 0
      have cs1 := blk_cell (blk_keep HS15.out hb) 1
      have cs2 := blk_cell (blk_keep HS15.out hb) 2
      have hwn : IntKind.u32.wrap (n : Int) = n := wraps_u32 _ (by omega) (by have := HM.out.2.2.2.1; omega)
      clear hb7 hb
      rcases j with _ | _ | _ | _ | _ | _ | _ | j
      · obtain rfl := Option.some.inj ho
        simp only [canon, List.range, List.range.loop, List.foldl]
        go_simp
        exact ⟨rfl, Below.refl _ _⟩
      · have e0 : vs 0 = _ := hpre 0 (by decide) (by obtain rfl := Option.some.inj ho; rfl)
        obtain rfl := Option.some.inj ho
        simp only [canon, List.range, List.range.loop, List.foldl]
        go_simp
        exact ⟨rfl, Below.refl _ _⟩
      · have e1 : vs 1 = _ := hpre 1 (by decide) (by obtain rfl := Option.some.inj ho; rfl)
        obtain rfl := Option.some.inj ho
        simp only [canon, List.range, List.range.loop, List.foldl]
        go_simp
        exact ⟨rfl, Below.refl _ _⟩
      · obtain rfl := Option.some.inj ho
        simp only [canon, List.range, List.range.loop, List.foldl]
        go_simp
        exact ⟨rfl, Below.refl _ _⟩
      · have e3 : vs 3 = _ := hpre 3 (by decide) (by obtain rfl := Option.some.inj ho; rfl)
        obtain rfl := Option.some.inj ho
        simp only [canon, List.range, List.range.loop, List.foldl]
        go_simp
        exact ⟨rfl, Below.refl _ _⟩
      · have e4 : vs 4 = _ := hpre 4 (by decide) (by obtain rfl := Option.some.inj ho; rfl)
        obtain rfl := Option.some.inj ho
        simp only [canon, List.range, List.range.loop, List.foldl]
        go_simp
        exact ⟨rfl, Below.refl _ _⟩
      · obtain rfl := Option.some.inj ho
        simp only [canon, List.range, List.range.loop, List.foldl]
        go_simp
        exact ⟨rfl, Below.refl _ _⟩
      · omega
    · intro vs w7 hb7 hrr _
      have e2 : vs 2 = _ := hrr 2 (by omega)
      have e5 : vs 5 = _ := hrr 5 (by omega)
      have e6 : vs 6 = _ := hrr 6 (by omega)
      have hb := bel_then (bel_drew (Below.refl u15.heap.size u15)) hb7
      have hb07 := bel_then H15.out.2.2.1 hb
      have hgm7 := blk_keep HG.out.2.1 hb07
      obtain ⟨w8, hw8⟩ : ∃ W, W = setBlock w7 gm (.map #[⟨.int .u32 (N : Int), .agg #[.int .u32 N, .int .u64 1, .slice (some ⟨gI, 0, none⟩) N N], clk0⟩] (clk0 + 1)) := ⟨_, rfl⟩
      have hup : (Instr.mapUpdate 68 (.map (some gm)) (.int .u32 (N : Int)) (.agg #[.int .u32 N, .int .u64 1, .slice (some ⟨gI, 0, none⟩) N N])).run Tryz.prog w7 = .ok () w8 := by rw [hw8]; exact upd_none (P := Tryz.prog) Tryz.underlying68 Tryz.underlying119 hgm7 _
      have hr8 : w8.heap[ri]? = some (.mapIter (some w.heap.size) 1 #[0] 1) := by rw [hw8, set_far _ (by rintro rfl; rw [blk_keep H15.out.1 hb] at hgm7; cases hgm7)]; exact blk_keep H15.out.1 hb
      have ha8 : w8.heap[w.heap.size]? = some (.map #[⟨.int .i64 (n : Int), .slice (some ⟨ga, 0, none⟩) 1 cap', 0⟩] 1) := by rw [hw8, set_far _ (by have := HG.out.2.2.1; omega)]; exact blk_keep H15.out.2.1 hb
      have HND := Kp.mk (fun ty => next_done (P := Tryz.prog) ty ri _ _ 0 hr8 ha8 (by omega))
      have HF : Kp (w8.heap[gm]? = some (.map #[⟨.int .u32 (N : Int), .agg #[.int .u32 N, .int .u64 1, .slice (some ⟨gI, 0, none⟩) N N], clk0⟩] (clk0 + 1)) ∧ RdB w8 (some ⟨gI, 0, none⟩) N N (ds ++ Lib.leBytes 8 off) ∧ Ex (· = gm) w w8) := by
        refine ⟨by rw [hw8]; exact set_same _ hgm7, by rw [hw8]; exact (keeps_map hgm7 _).rd (H15.out.2.2.2.below hb), ?_⟩
        rw [hw8]
        exact ⟨hb07.os, hb07.tape, hb07.output, by rw [set_size]; exact hb07.size, fun k hk hne => (set_far _ hne).trans (hb07.block k hk)⟩
      clear hb7 hrr hb hb07 hgm7 hw8 hr8 ha8 H15 HS15
      simp only [canon, List.range, List.range.loop, List.foldl]
      refine wpAny_last 7 (by kernel_rfl) ?_
      refine wpOp_go rfl rfl ?_
      go_simp
      refine wpAny_none (by kernel_rfl) ?_ _
      clear hup e2 e5 e6
      go_wp2_with fail
      rw [rounds_succ]
      go_wp2_with (first | (at_next; refine wpList_next_run _ rfl _ rfl _ _ _ rfl (HND.out _) ?_))
      go_ret
      refine ⟨rfl, ⟨gI, Nat.le_of_lt HGI.out.1, ?_, ?_⟩, HF.out.2.2⟩
      · rw [← HNN.out]; exact HF.out.1
      · rw [← HNN.out]; exact HF.out.2.1

end Go.Proofs.YtnhnkfdhkifahaaGreatDoor
