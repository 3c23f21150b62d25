/- The walk of spec.ReadBlock. -/
import Derived.Test.YtdppnlomhlnbkaaDoorSpecLong
import Derived.Test.YtdppnlomhlnbkaaDoorSpecCd
import Derived.Test.YtdppnlomhlnbkaaDoorGrowA
namespace Go.Proofs.YtdppnlomhlnbkaaDoor
open Go.RowKit

theorem res_cells_aa {P : Program} {fn : Func} {p u : Tmp} {ty tb : TypeId} (h : fn.results = #[.cell p ty, .cell u tb]) (tmps : Array Value) (w : World) (g g2 : Nat) (t t2 : TypeId) (cs cs2 : Array Value) (d d2 : TypeDesc) (hp : tmps.getD p undef = .pointer (some ⟨g, 0, none⟩)) (hq : tmps.getD u undef = .pointer (some ⟨g2, 0, none⟩)) (hg : w.heap[g]? = some (.cells cs t (0, 0))) (hg2 : w.heap[g2]? = some (.cells cs2 t2 (0, 0)))
    (hu : P.underlying ty = some d) (hd : (match d with | .struct _ | .array _ _ => true | _ => false) = true) (hi : (P.info? ty).map (·.size) = some cs.size)
    (hu2 : P.underlying tb = some d2) (hd2 : (match d2 with | .struct _ | .array _ _ => true | _ => false) = true) (hi2 : (P.info? tb).map (·.size) = some cs2.size) : (results fn tmps).run P w = .ok (.tuple #[.agg cs, .agg cs2]) w := by
  have hr := run_loadVar_row (P := P) w g t ty cs (0, 0) d hg hu hd hi
  have hr2 := run_loadVar_row (P := P) w g2 t2 tb cs2 (0, 0) d2 hg2 hu2 hd2 hi2
  have hp' : tmps[p]?.getD undef = .pointer (some ⟨g, 0, none⟩) := by rw [← hp, Array.getD_eq_getD_getElem?]
  have hq' : tmps[u]?.getD undef = .pointer (some ⟨g2, 0, none⟩) := by rw [← hq, Array.getD_eq_getD_getElem?]
  simp [results, h, asAddr, hr, hr2, hp', hq']

theorem long_dle {bs : List UInt8} {ze : Bool} {most : Nat} {d : List UInt8} {N : Nat} (h : longRead bs ze most = .read d N) : d.length ≤ bs.length := by
  unfold longRead at h
  split at h
  · cases h
  · split at h
    · cases h
    · split at h
      · cases h
      · split at h
        · cases h
        · split at h
          · cases h
          · split at h
            · cases h
            · simp only [LongR.read.injEq] at h
              rw [← h.1, List.length_take, List.length_drop]; omega

/-- What spec.ReadBlock hands back. -/
def SbEnd (r : LongR) (e : Ending) : Prop :=
  match r with
  | .ended n => e = .returned (.tuple #[.agg #[.int .u64 0, .int .u64 0, .int .u64 0, .string ⟨#[]⟩, .string ⟨#[]⟩], .agg #[.string ⟨#[]⟩, .int .i64 n, .int .u8 1, .bool false]])
  | .left => e = .returned (.tuple #[.agg #[.int .u64 0, .int .u64 0, .int .u64 0, .string ⟨#[]⟩, .string ⟨#[]⟩], .agg #[.string ⟨#[]⟩, .int .i64 0, .int .u8 0, .bool true]])
  | .failed => e = .returned (.tuple #[.agg #[.int .u64 0, .int .u64 0, .int .u64 0, .string ⟨#[]⟩, .string ⟨#[]⟩], .agg #[.string ⟨#[]⟩, .int .i64 0, .int .u8 2, .bool false]])
  | .read d N => match cdRead d with
    | none => e = .returned (.tuple #[.agg #[.int .u64 0, .int .u64 0, .int .u64 0, .string ⟨#[]⟩, .string ⟨#[]⟩], .agg #[.string (strB d), .int .i64 N, .int .u8 2, .bool false]])
    | some (v, codec, code, dg, n) => e = .returned (.tuple #[.agg #[.int .u64 v, .int .u64 codec, .int .u64 code, .string (strB dg), .string (strB (d.drop n))], .agg #[.string (strB d), .int .i64 N, .int .u8 0, .bool false]])

/-- What the operations of the small regions leave. -/
def rbR (r : Nat) (L : Array Value) (j : Nat) (v : Value) (w : World) : Prop :=
  match j with
  | 0 => v = .agg #[.int .u64 0, .int .u64 0, .int .u64 0, .string ⟨#[]⟩, .string ⟨#[]⟩]
  | 1 => v = .agg L
  | 2 => w.heap[r]? = some (.cells #[.int .u64 0, .int .u64 0, .int .u64 0, .string ⟨#[]⟩, .string ⟨#[]⟩] 45 (0, 0))
  | 3 => w.heap[r + 1]? = some (.cells L 39 (0, 0))
  | _ => True
/-- What the operations of the last region leave. -/
def rcR (r q9 q8 : Nat) (C V L : Array Value) (S D : ByteArray) (n : Nat) (j : Nat) (v : Value) (w : World) : Prop :=
  match j with
  | 0 => v = .agg C
  | 1 => v = .pointer (some ⟨q8, 0, none⟩)
  | 2 => v = .string S
  | 3 => v = .int .i64 n
  | 4 => v = .string D
  | 5 => v = .agg V
  | 6 => v = .agg L
  | 7 => w.heap[r]? = some (.cells V 45 (0, 0))
  | 8 => w.heap[r + 1]? = some (.cells L 39 (0, 0))
  | _ => q9 = q9

set_option maxHeartbeats 8000000 in
set_option maxRecDepth 100000 in
/-- spec.ReadBlock. -/
theorem specBlock_calls (s : ByteArray) (ze : Bool) (most : Nat) (w : World) (hs : s.size ≤ 2147483647) (hm : most ≤ 33554432) :
    Calls Tryd.prog 20 #[.string s, .bool ze, .int .u64 most] w fun e w' => SbEnd (longRead (bl s) ze most) e ∧ Below w.heap.size w w' := by
  have HSL := Kp.mk (fun w => specLong_calls s ze most w hs hm)
  have hbl := bl_length s
  have HX := Kp.mk (And.intro hs hbl)
  clear hs hm hbl
  go_enter Tryd.func20, Tryd.ntmps20
  go_wp2_with fail
  refine (HSL.out _).mono ?_
  rintro e w1 ⟨hu, hb⟩
  have HR0 := Kp.mk (blk_keep (blk_new (w := w) (o := .cells #[.int .u64 0, .int .u64 0, .int .u64 0, .string ⟨#[]⟩, .string ⟨#[]⟩] 45) (bel_alloc (Below.refl _ _) (.cells #[.string ⟨#[]⟩, .int .i64 0, .int .u8 0, .bool false] 39))) hb)
  have HS0 := Kp.mk (blk_new2 (w := w) (o := .cells #[.int .u64 0, .int .u64 0, .int .u64 0, .string ⟨#[]⟩, .string ⟨#[]⟩] 45) (o2 := .cells #[.string ⟨#[]⟩, .int .i64 0, .int .u8 0, .bool false] 39) hb)
  have HB0 := Kp.mk (bel_new2 hb)
  have hsq : w.heap.size + 1 < w1.heap.size := (Array.getElem?_eq_some_iff.1 HS0.out).1
  clear hb HSL
  cases hrd : longRead (bl s) ze most with
  | ended k =>
    rw [hrd] at hu
    have HM := Kp.mk hrd
    clear hrd
    obtain rfl : e = _ := hu
    have hqs := hsq
    have HQ := Kp.mk (blk_new (w := w1) (o := .cells #[.string ⟨#[]⟩, .int .i64 k, .int .u8 1, .bool false] 39) (Below.refl _ _))
    have HR := Kp.mk (blk_keep HR0.out (bel_alloc (Below.refl _ _) (.cells #[.string ⟨#[]⟩, .int .i64 k, .int .u8 1, .bool false] 39)))
    have HS := Kp.mk (blk_keep HS0.out (bel_alloc (Below.refl _ _) (.cells #[.string ⟨#[]⟩, .int .i64 k, .int .u8 1, .bool false] 39)))
    have HB := Kp.mk (bel_alloc HB0.out (.cells #[.string ⟨#[]⟩, .int .i64 k, .int .u8 1, .bool false] 39))
    have c2 := blk_cell HQ.out 2
    have c3 := blk_cell HQ.out 3
    go_wp2_with fail
    generalize hW : w1.alloc _ = W at *
    clear c2 c3 hW
    refine wp_region_growR (Two w.heap.size w.heap.size (w.heap.size + 1) (.cells #[.int .u64 0, .int .u64 0, .int .u64 0, .string ⟨#[]⟩, .string ⟨#[]⟩] 45 (0, 0)) (.cells #[.int .u64 0, .int .u64 0, .int .u64 0, .string ⟨#[]⟩, .string ⟨#[]⟩] 45 (0, 0)) (.cells #[.string ⟨#[]⟩, .int .i64 0, .int .u8 0, .bool false] 39 (0, 0)) (.cells #[.string ⟨#[]⟩, .int .i64 k, .int .u8 1, .bool false] 39 (0, 0))) (fun _ => Two.refl _ _ _ _ _ _ _ _) (fun _ _ _ h k => h.trans k) (by kernel_rfl) 4 (by decide) (apart_of (by kernel_rfl)) (by kernel_rfl) (rbR w.heap.size #[.string ⟨#[]⟩, .int .i64 k, .int .u8 1, .bool false]) (fun _ _ _ _ => True) (fun _ _ _ _ h hb => by unfold rbR at *; split at h <;> first | exact h | exact hb.2.2.1.1 h | exact hb.2.2.2.1 h) ?_ ?_
    · intro j hj ob ho vs w5 hb5 hpre
      rcases j with _ | _ | _ | _ | j
      · obtain rfl := Option.some.inj ho
        simp only [canon, List.range, List.range.loop, List.foldl]
        go_simp
        exact ⟨rfl, Two.refl _ _ _ _ _ _ _ _⟩
      · have hq := hb5.keep HQ.out (by omega) (by omega)
        have c0 := blk_cell hq 0
        have c1 := blk_cell hq 1
        have c2 := blk_cell hq 2
        have c3 := blk_cell hq 3
        obtain rfl := Option.some.inj ho
        simp only [canon, List.range, List.range.loop, List.foldl]
        go_simp
        exact ⟨rfl, Two.refl _ _ _ _ _ _ _ _⟩
      · have e0 : vs 0 = _ := hpre 0 (by decide) (by obtain rfl := Option.some.inj ho; rfl)
        have hst := two_fst (B := w.heap.size) (r := w.heap.size) (s := w.heap.size + 1) (a := #[.int .u64 0, .int .u64 0, .int .u64 0, .string ⟨#[]⟩, .string ⟨#[]⟩]) (c := #[.int .u64 0, .int .u64 0, .int .u64 0, .string ⟨#[]⟩, .string ⟨#[]⟩]) (w := w5) (D := .cells #[.string ⟨#[]⟩, .int .i64 0, .int .u8 0, .bool false] 39 (0, 0)) (E := .cells #[.string ⟨#[]⟩, .int .i64 k, .int .u8 1, .bool false] 39 (0, 0)) [.int .u64 0, .int .u64 0, .int .u64 0, .string ⟨#[]⟩, .string ⟨#[]⟩] (hb5.2.2.1.2 HR.out) rfl rfl (by omega) (by omega)
        obtain ⟨⟨x0, c0⟩, f0⟩ := two_cell (hb5.2.2.1.2 HR.out) 0 (Nat.le_of_ble_eq_true rfl) (Nat.le_of_ble_eq_true rfl)
        obtain ⟨⟨x1, c1⟩, f1⟩ := two_cell (hb5.2.2.1.2 HR.out) 1 (Nat.le_of_ble_eq_true rfl) (Nat.le_of_ble_eq_true rfl)
        obtain ⟨⟨x2, c2⟩, f2⟩ := two_cell (hb5.2.2.1.2 HR.out) 2 (Nat.le_of_ble_eq_true rfl) (Nat.le_of_ble_eq_true rfl)
        obtain ⟨⟨x3, c3⟩, f3⟩ := two_cell (hb5.2.2.1.2 HR.out) 3 (Nat.le_of_ble_eq_true rfl) (Nat.le_of_ble_eq_true rfl)
        obtain ⟨⟨x4, c4⟩, f4⟩ := two_cell (hb5.2.2.1.2 HR.out) 4 (Nat.le_of_ble_eq_true rfl) (Nat.le_of_ble_eq_true rfl)
        simp only [putAll, Nat.zero_add, Nat.reduceAdd] at hst
        obtain rfl := Option.some.inj ho
        simp only [canon, List.range, List.range.loop, List.foldl]
        go_simp
        exact ⟨undef, hst.1⟩
      · have e1 : vs 1 = _ := hpre 1 (by decide) (by obtain rfl := Option.some.inj ho; rfl)
        have hst := two_snd (B := w.heap.size) (r := w.heap.size) (s := w.heap.size + 1) (a := #[.string ⟨#[]⟩, .int .i64 0, .int .u8 0, .bool false]) (c := #[.string ⟨#[]⟩, .int .i64 k, .int .u8 1, .bool false]) (w := w5) (A := .cells #[.int .u64 0, .int .u64 0, .int .u64 0, .string ⟨#[]⟩, .string ⟨#[]⟩] 45 (0, 0)) (C := .cells #[.int .u64 0, .int .u64 0, .int .u64 0, .string ⟨#[]⟩, .string ⟨#[]⟩] 45 (0, 0)) [.string ⟨#[]⟩, .int .i64 k, .int .u8 1, .bool false] (hb5.2.2.2.2 HS.out) rfl rfl (by omega) (by omega)
        obtain ⟨⟨x0, c0⟩, f0⟩ := two_cell (hb5.2.2.2.2 HS.out) 0 (Nat.le_of_ble_eq_true rfl) (Nat.le_of_ble_eq_true rfl)
        obtain ⟨⟨x1, c1⟩, f1⟩ := two_cell (hb5.2.2.2.2 HS.out) 1 (Nat.le_of_ble_eq_true rfl) (Nat.le_of_ble_eq_true rfl)
        obtain ⟨⟨x2, c2⟩, f2⟩ := two_cell (hb5.2.2.2.2 HS.out) 2 (Nat.le_of_ble_eq_true rfl) (Nat.le_of_ble_eq_true rfl)
        obtain ⟨⟨x3, c3⟩, f3⟩ := two_cell (hb5.2.2.2.2 HS.out) 3 (Nat.le_of_ble_eq_true rfl) (Nat.le_of_ble_eq_true rfl)
        simp only [putAll, Nat.zero_add, Nat.reduceAdd] at hst
        obtain rfl := Option.some.inj ho
        simp only [canon, List.range, List.range.loop, List.foldl]
        go_simp
        exact ⟨undef, hst.1⟩
      · omega
    · intro vs w5 hb5 hr5 _
      have hV := hr5 2 (by omega)
      have hL := hr5 3 (by omega)
      have HB5 := Kp.mk (HB.out.trans ((bel_drewN (Below.refl w.heap.size W) 1).trans hb5.1))
      clear hb5 hr5
      refine wpAny_none (by kernel_rfl) ?_ _
      generalize hA : canon _ _ vs 4 = FR
      have h6 : FR.tmps[6]? = some (.pointer (some ⟨w.heap.size, 0, none⟩)) := by rw [← hA, canon_keep _ (by kernel_rfl)]; rfl
      have h7 : FR.tmps[7]? = some (.pointer (some ⟨w.heap.size + 1, 0, none⟩)) := by rw [← hA, canon_keep _ (by kernel_rfl)]; rfl
      have hD : FR.defers = [] := by rw [← hA, canon_defers]
      clear hA
      go_wp2
      refine bodyPost_ret (res_cells_aa rfl _ _ w.heap.size (w.heap.size + 1) 45 39 #[.int .u64 0, .int .u64 0, .int .u64 0, .string ⟨#[]⟩, .string ⟨#[]⟩] #[.string ⟨#[]⟩, .int .i64 k, .int .u8 1, .bool false] _ _ (by rw [Array.getD_eq_getD_getElem?, h6]; rfl) (by rw [Array.getD_eq_getD_getElem?, h7]; rfl) hV hL Tryd.underlying45 rfl (by kernel_rfl) Tryd.underlying39 rfl (by kernel_rfl)) hD ?_
      exact ⟨by rw [HM.out]; rfl, HB5.out⟩
  | left =>
    rw [hrd] at hu
    have HM := Kp.mk hrd
    clear hrd
    obtain rfl : e = _ := hu
    have hqs := hsq
    have HQ := Kp.mk (blk_new (w := w1) (o := .cells #[.string ⟨#[]⟩, .int .i64 0, .int .u8 0, .bool true] 39) (Below.refl _ _))
    have HR := Kp.mk (blk_keep HR0.out (bel_alloc (Below.refl _ _) (.cells #[.string ⟨#[]⟩, .int .i64 0, .int .u8 0, .bool true] 39)))
    have HS := Kp.mk (blk_keep HS0.out (bel_alloc (Below.refl _ _) (.cells #[.string ⟨#[]⟩, .int .i64 0, .int .u8 0, .bool true] 39)))
    have HB := Kp.mk (bel_alloc HB0.out (.cells #[.string ⟨#[]⟩, .int .i64 0, .int .u8 0, .bool true] 39))
    have c2 := blk_cell HQ.out 2
    have c3 := blk_cell HQ.out 3
    go_wp2_with fail
    generalize hW : w1.alloc _ = W at *
    clear c2 c3 hW
    refine wp_region_growR (Two w.heap.size w.heap.size (w.heap.size + 1) (.cells #[.int .u64 0, .int .u64 0, .int .u64 0, .string ⟨#[]⟩, .string ⟨#[]⟩] 45 (0, 0)) (.cells #[.int .u64 0, .int .u64 0, .int .u64 0, .string ⟨#[]⟩, .string ⟨#[]⟩] 45 (0, 0)) (.cells #[.string ⟨#[]⟩, .int .i64 0, .int .u8 0, .bool false] 39 (0, 0)) (.cells #[.string ⟨#[]⟩, .int .i64 0, .int .u8 0, .bool true] 39 (0, 0))) (fun _ => Two.refl _ _ _ _ _ _ _ _) (fun _ _ _ h k => h.trans k) (by kernel_rfl) 4 (by decide) (apart_of (by kernel_rfl)) (by kernel_rfl) (rbR w.heap.size #[.string ⟨#[]⟩, .int .i64 0, .int .u8 0, .bool true]) (fun _ _ _ _ => True) (fun _ _ _ _ h hb => by unfold rbR at *; split at h <;> first | exact h | exact hb.2.2.1.1 h | exact hb.2.2.2.1 h) ?_ ?_
    · intro j hj ob ho vs w5 hb5 hpre
      rcases j with _ | _ | _ | _ | j
      · obtain rfl := Option.some.inj ho
        simp only [canon, List.range, List.range.loop, List.foldl]
        go_simp
        exact ⟨rfl, Two.refl _ _ _ _ _ _ _ _⟩
      · have hq := hb5.keep HQ.out (by omega) (by omega)
        have c0 := blk_cell hq 0
        have c1 := blk_cell hq 1
        have c2 := blk_cell hq 2
        have c3 := blk_cell hq 3
        obtain rfl := Option.some.inj ho
        simp only [canon, List.range, List.range.loop, List.foldl]
        go_simp
        exact ⟨rfl, Two.refl _ _ _ _ _ _ _ _⟩
      · have e0 : vs 0 = _ := hpre 0 (by decide) (by obtain rfl := Option.some.inj ho; rfl)
        have hst := two_fst (B := w.heap.size) (r := w.heap.size) (s := w.heap.size + 1) (a := #[.int .u64 0, .int .u64 0, .int .u64 0, .string ⟨#[]⟩, .string ⟨#[]⟩]) (c := #[.int .u64 0, .int .u64 0, .int .u64 0, .string ⟨#[]⟩, .string ⟨#[]⟩]) (w := w5) (D := .cells #[.string ⟨#[]⟩, .int .i64 0, .int .u8 0, .bool false] 39 (0, 0)) (E := .cells #[.string ⟨#[]⟩, .int .i64 0, .int .u8 0, .bool true] 39 (0, 0)) [.int .u64 0, .int .u64 0, .int .u64 0, .string ⟨#[]⟩, .string ⟨#[]⟩] (hb5.2.2.1.2 HR.out) rfl rfl (by omega) (by omega)
        obtain ⟨⟨x0, c0⟩, f0⟩ := two_cell (hb5.2.2.1.2 HR.out) 0 (Nat.le_of_ble_eq_true rfl) (Nat.le_of_ble_eq_true rfl)
        obtain ⟨⟨x1, c1⟩, f1⟩ := two_cell (hb5.2.2.1.2 HR.out) 1 (Nat.le_of_ble_eq_true rfl) (Nat.le_of_ble_eq_true rfl)
        obtain ⟨⟨x2, c2⟩, f2⟩ := two_cell (hb5.2.2.1.2 HR.out) 2 (Nat.le_of_ble_eq_true rfl) (Nat.le_of_ble_eq_true rfl)
        obtain ⟨⟨x3, c3⟩, f3⟩ := two_cell (hb5.2.2.1.2 HR.out) 3 (Nat.le_of_ble_eq_true rfl) (Nat.le_of_ble_eq_true rfl)
        obtain ⟨⟨x4, c4⟩, f4⟩ := two_cell (hb5.2.2.1.2 HR.out) 4 (Nat.le_of_ble_eq_true rfl) (Nat.le_of_ble_eq_true rfl)
        simp only [putAll, Nat.zero_add, Nat.reduceAdd] at hst
        obtain rfl := Option.some.inj ho
        simp only [canon, List.range, List.range.loop, List.foldl]
        go_simp
        exact ⟨undef, hst.1⟩
      · have e1 : vs 1 = _ := hpre 1 (by decide) (by obtain rfl := Option.some.inj ho; rfl)
        have hst := two_snd (B := w.heap.size) (r := w.heap.size) (s := w.heap.size + 1) (a := #[.string ⟨#[]⟩, .int .i64 0, .int .u8 0, .bool false]) (c := #[.string ⟨#[]⟩, .int .i64 0, .int .u8 0, .bool true]) (w := w5) (A := .cells #[.int .u64 0, .int .u64 0, .int .u64 0, .string ⟨#[]⟩, .string ⟨#[]⟩] 45 (0, 0)) (C := .cells #[.int .u64 0, .int .u64 0, .int .u64 0, .string ⟨#[]⟩, .string ⟨#[]⟩] 45 (0, 0)) [.string ⟨#[]⟩, .int .i64 0, .int .u8 0, .bool true] (hb5.2.2.2.2 HS.out) rfl rfl (by omega) (by omega)
        obtain ⟨⟨x0, c0⟩, f0⟩ := two_cell (hb5.2.2.2.2 HS.out) 0 (Nat.le_of_ble_eq_true rfl) (Nat.le_of_ble_eq_true rfl)
        obtain ⟨⟨x1, c1⟩, f1⟩ := two_cell (hb5.2.2.2.2 HS.out) 1 (Nat.le_of_ble_eq_true rfl) (Nat.le_of_ble_eq_true rfl)
        obtain ⟨⟨x2, c2⟩, f2⟩ := two_cell (hb5.2.2.2.2 HS.out) 2 (Nat.le_of_ble_eq_true rfl) (Nat.le_of_ble_eq_true rfl)
        obtain ⟨⟨x3, c3⟩, f3⟩ := two_cell (hb5.2.2.2.2 HS.out) 3 (Nat.le_of_ble_eq_true rfl) (Nat.le_of_ble_eq_true rfl)
        simp only [putAll, Nat.zero_add, Nat.reduceAdd] at hst
        obtain rfl := Option.some.inj ho
        simp only [canon, List.range, List.range.loop, List.foldl]
        go_simp
        exact ⟨undef, hst.1⟩
      · omega
    · intro vs w5 hb5 hr5 _
      have hV := hr5 2 (by omega)
      have hL := hr5 3 (by omega)
      have HB5 := Kp.mk (HB.out.trans ((bel_drewN (Below.refl w.heap.size W) 1).trans hb5.1))
      clear hb5 hr5
      refine wpAny_none (by kernel_rfl) ?_ _
      generalize hA : canon _ _ vs 4 = FR
      have h6 : FR.tmps[6]? = some (.pointer (some ⟨w.heap.size, 0, none⟩)) := by rw [← hA, canon_keep _ (by kernel_rfl)]; rfl
      have h7 : FR.tmps[7]? = some (.pointer (some ⟨w.heap.size + 1, 0, none⟩)) := by rw [← hA, canon_keep _ (by kernel_rfl)]; rfl
      have hD : FR.defers = [] := by rw [← hA, canon_defers]
      clear hA
      go_wp2
      refine bodyPost_ret (res_cells_aa rfl _ _ w.heap.size (w.heap.size + 1) 45 39 #[.int .u64 0, .int .u64 0, .int .u64 0, .string ⟨#[]⟩, .string ⟨#[]⟩] #[.string ⟨#[]⟩, .int .i64 0, .int .u8 0, .bool true] _ _ (by rw [Array.getD_eq_getD_getElem?, h6]; rfl) (by rw [Array.getD_eq_getD_getElem?, h7]; rfl) hV hL Tryd.underlying45 rfl (by kernel_rfl) Tryd.underlying39 rfl (by kernel_rfl)) hD ?_
      exact ⟨by rw [HM.out]; rfl, HB5.out⟩
  | failed =>
    rw [hrd] at hu
    have HM := Kp.mk hrd
    clear hrd
    obtain rfl : e = _ := hu
    have hqs := hsq
    have HQ := Kp.mk (blk_new (w := w1) (o := .cells #[.string ⟨#[]⟩, .int .i64 0, .int .u8 2, .bool false] 39) (Below.refl _ _))
    have HR := Kp.mk (blk_keep HR0.out (bel_alloc (Below.refl _ _) (.cells #[.string ⟨#[]⟩, .int .i64 0, .int .u8 2, .bool false] 39)))
    have HS := Kp.mk (blk_keep HS0.out (bel_alloc (Below.refl _ _) (.cells #[.string ⟨#[]⟩, .int .i64 0, .int .u8 2, .bool false] 39)))
    have HB := Kp.mk (bel_alloc HB0.out (.cells #[.string ⟨#[]⟩, .int .i64 0, .int .u8 2, .bool false] 39))
    have c2 := blk_cell HQ.out 2
    have c3 := blk_cell HQ.out 3
    go_wp2_with fail
    generalize hW : w1.alloc _ = W at *
    clear c2 c3 hW
    refine wp_region_growR (Two w.heap.size w.heap.size (w.heap.size + 1) (.cells #[.int .u64 0, .int .u64 0, .int .u64 0, .string ⟨#[]⟩, .string ⟨#[]⟩] 45 (0, 0)) (.cells #[.int .u64 0, .int .u64 0, .int .u64 0, .string ⟨#[]⟩, .string ⟨#[]⟩] 45 (0, 0)) (.cells #[.string ⟨#[]⟩, .int .i64 0, .int .u8 0, .bool false] 39 (0, 0)) (.cells #[.string ⟨#[]⟩, .int .i64 0, .int .u8 2, .bool false] 39 (0, 0))) (fun _ => Two.refl _ _ _ _ _ _ _ _) (fun _ _ _ h k => h.trans k) (by kernel_rfl) 4 (by decide) (apart_of (by kernel_rfl)) (by kernel_rfl) (rbR w.heap.size #[.string ⟨#[]⟩, .int .i64 0, .int .u8 2, .bool false]) (fun _ _ _ _ => True) (fun _ _ _ _ h hb => by unfold rbR at *; split at h <;> first | exact h | exact hb.2.2.1.1 h | exact hb.2.2.2.1 h) ?_ ?_
    · intro j hj ob ho vs w5 hb5 hpre
      rcases j with _ | _ | _ | _ | j
      · obtain rfl := Option.some.inj ho
        simp only [canon, List.range, List.range.loop, List.foldl]
        go_simp
        exact ⟨rfl, Two.refl _ _ _ _ _ _ _ _⟩
      · have hq := hb5.keep HQ.out (by omega) (by omega)
        have c0 := blk_cell hq 0
        have c1 := blk_cell hq 1
        have c2 := blk_cell hq 2
        have c3 := blk_cell hq 3
        obtain rfl := Option.some.inj ho
        simp only [canon, List.range, List.range.loop, List.foldl]
        go_simp
        exact ⟨rfl, Two.refl _ _ _ _ _ _ _ _⟩
      · have e0 : vs 0 = _ := hpre 0 (by decide) (by obtain rfl := Option.some.inj ho; rfl)
        have hst := two_fst (B := w.heap.size) (r := w.heap.size) (s := w.heap.size + 1) (a := #[.int .u64 0, .int .u64 0, .int .u64 0, .string ⟨#[]⟩, .string ⟨#[]⟩]) (c := #[.int .u64 0, .int .u64 0, .int .u64 0, .string ⟨#[]⟩, .string ⟨#[]⟩]) (w := w5) (D := .cells #[.string ⟨#[]⟩, .int .i64 0, .int .u8 0, .bool false] 39 (0, 0)) (E := .cells #[.string ⟨#[]⟩, .int .i64 0, .int .u8 2, .bool false] 39 (0, 0)) [.int .u64 0, .int .u64 0, .int .u64 0, .string ⟨#[]⟩, .string ⟨#[]⟩] (hb5.2.2.1.2 HR.out) rfl rfl (by omega) (by omega)
        obtain ⟨⟨x0, c0⟩, f0⟩ := two_cell (hb5.2.2.1.2 HR.out) 0 (Nat.le_of_ble_eq_true rfl) (Nat.le_of_ble_eq_true rfl)
        obtain ⟨⟨x1, c1⟩, f1⟩ := two_cell (hb5.2.2.1.2 HR.out) 1 (Nat.le_of_ble_eq_true rfl) (Nat.le_of_ble_eq_true rfl)
        obtain ⟨⟨x2, c2⟩, f2⟩ := two_cell (hb5.2.2.1.2 HR.out) 2 (Nat.le_of_ble_eq_true rfl) (Nat.le_of_ble_eq_true rfl)
        obtain ⟨⟨x3, c3⟩, f3⟩ := two_cell (hb5.2.2.1.2 HR.out) 3 (Nat.le_of_ble_eq_true rfl) (Nat.le_of_ble_eq_true rfl)
        obtain ⟨⟨x4, c4⟩, f4⟩ := two_cell (hb5.2.2.1.2 HR.out) 4 (Nat.le_of_ble_eq_true rfl) (Nat.le_of_ble_eq_true rfl)
        simp only [putAll, Nat.zero_add, Nat.reduceAdd] at hst
        obtain rfl := Option.some.inj ho
        simp only [canon, List.range, List.range.loop, List.foldl]
        go_simp
        exact ⟨undef, hst.1⟩
      · have e1 : vs 1 = _ := hpre 1 (by decide) (by obtain rfl := Option.some.inj ho; rfl)
        have hst := two_snd (B := w.heap.size) (r := w.heap.size) (s := w.heap.size + 1) (a := #[.string ⟨#[]⟩, .int .i64 0, .int .u8 0, .bool false]) (c := #[.string ⟨#[]⟩, .int .i64 0, .int .u8 2, .bool false]) (w := w5) (A := .cells #[.int .u64 0, .int .u64 0, .int .u64 0, .string ⟨#[]⟩, .string ⟨#[]⟩] 45 (0, 0)) (C := .cells #[.int .u64 0, .int .u64 0, .int .u64 0, .string ⟨#[]⟩, .string ⟨#[]⟩] 45 (0, 0)) [.string ⟨#[]⟩, .int .i64 0, .int .u8 2, .bool false] (hb5.2.2.2.2 HS.out) rfl rfl (by omega) (by omega)
        obtain ⟨⟨x0, c0⟩, f0⟩ := two_cell (hb5.2.2.2.2 HS.out) 0 (Nat.le_of_ble_eq_true rfl) (Nat.le_of_ble_eq_true rfl)
        obtain ⟨⟨x1, c1⟩, f1⟩ := two_cell (hb5.2.2.2.2 HS.out) 1 (Nat.le_of_ble_eq_true rfl) (Nat.le_of_ble_eq_true rfl)
        obtain ⟨⟨x2, c2⟩, f2⟩ := two_cell (hb5.2.2.2.2 HS.out) 2 (Nat.le_of_ble_eq_true rfl) (Nat.le_of_ble_eq_true rfl)
        obtain ⟨⟨x3, c3⟩, f3⟩ := two_cell (hb5.2.2.2.2 HS.out) 3 (Nat.le_of_ble_eq_true rfl) (Nat.le_of_ble_eq_true rfl)
        simp only [putAll, Nat.zero_add, Nat.reduceAdd] at hst
        obtain rfl := Option.some.inj ho
        simp only [canon, List.range, List.range.loop, List.foldl]
        go_simp
        exact ⟨undef, hst.1⟩
      · omega
    · intro vs w5 hb5 hr5 _
      have hV := hr5 2 (by omega)
      have hL := hr5 3 (by omega)
      have HB5 := Kp.mk (HB.out.trans ((bel_drewN (Below.refl w.heap.size W) 1).trans hb5.1))
      clear hb5 hr5
      refine wpAny_none (by kernel_rfl) ?_ _
      generalize hA : canon _ _ vs 4 = FR
      have h6 : FR.tmps[6]? = some (.pointer (some ⟨w.heap.size, 0, none⟩)) := by rw [← hA, canon_keep _ (by kernel_rfl)]; rfl
      have h7 : FR.tmps[7]? = some (.pointer (some ⟨w.heap.size + 1, 0, none⟩)) := by rw [← hA, canon_keep _ (by kernel_rfl)]; rfl
      have hD : FR.defers = [] := by rw [← hA, canon_defers]
      clear hA
      go_wp2
      refine bodyPost_ret (res_cells_aa rfl _ _ w.heap.size (w.heap.size + 1) 45 39 #[.int .u64 0, .int .u64 0, .int .u64 0, .string ⟨#[]⟩, .string ⟨#[]⟩] #[.string ⟨#[]⟩, .int .i64 0, .int .u8 2, .bool false] _ _ (by rw [Array.getD_eq_getD_getElem?, h6]; rfl) (by rw [Array.getD_eq_getD_getElem?, h7]; rfl) hV hL Tryd.underlying45 rfl (by kernel_rfl) Tryd.underlying39 rfl (by kernel_rfl)) hD ?_
      exact ⟨by rw [HM.out]; rfl, HB5.out⟩
  | read d N =>
    have hdl := long_dle hrd
    have HSC := Kp.mk (fun w => specCd_calls (strB d) w (by rw [strB_size]; have := HX.out; omega))
    rw [bl_strB] at HSC
    rw [hrd] at hu
    obtain rfl : e = _ := hu
    have HDL := Kp.mk hdl
    have HM := Kp.mk hrd
    have HQ1 := Kp.mk (blk_new (w := w1) (o := (.cells #[.string (strB d), .int .i64 N, .int .u8 0, .bool false] 39)) (Below.refl _ _))
    have HR1 := Kp.mk (blk_keep HR0.out (bel_alloc (Below.refl _ _) (.cells #[.string (strB d), .int .i64 N, .int .u8 0, .bool false] 39)))
    have HS1 := Kp.mk (blk_keep HS0.out (bel_alloc (Below.refl _ _) (.cells #[.string (strB d), .int .i64 N, .int .u8 0, .bool false] 39)))
    have HB1 := Kp.mk (bel_alloc HB0.out (.cells #[.string (strB d), .int .i64 N, .int .u8 0, .bool false] 39))
    have hw1 : w1.heap.size < (w1.alloc (.cells #[.string (strB d), .int .i64 N, .int .u8 0, .bool false] 39)).heap.size := (Array.getElem?_eq_some_iff.1 HQ1.out).1
    have c0 := blk_cell HQ1.out 0
    have c2 := blk_cell HQ1.out 2
    have c3 := blk_cell HQ1.out 3
    clear hrd hdl HR0 HS0 HB0
    go_wp2_with fail
    generalize hW1 : w1.alloc _ = W1 at *
    refine (HSC.out _).mono ?_
    rintro e w2 ⟨hu, hb⟩
    have HQ2 := Kp.mk (blk_keep HQ1.out hb)
    have HR2 := Kp.mk (blk_keep HR1.out hb)
    have HS2 := Kp.mk (blk_keep HS1.out hb)
    have HB2 := Kp.mk (bel_then HB1.out hb)
    have hw2 : w1.heap.size < w2.heap.size := Nat.lt_of_lt_of_le hw1 hb.size
    clear hb hW1 HQ1 HR1 HS1 HB1 c0 c2 c3 HSC hw1
    unfold CrEnd at hu
    cases hcd : cdRead d with
    | none =>
      rw [hcd] at hu
      obtain rfl : e = _ := hu
      have HD := Kp.mk hcd
      have HQ3 := Kp.mk (blk_keep HQ2.out (bel_alloc (Below.refl _ _) (.cells #[.int .u64 0, .int .u64 0, .int .u64 0, .string ⟨#[]⟩] 24)))
      have HR3 := Kp.mk (blk_keep HR2.out (bel_alloc (Below.refl _ _) (.cells #[.int .u64 0, .int .u64 0, .int .u64 0, .string ⟨#[]⟩] 24)))
      have HS3 := Kp.mk (blk_keep HS2.out (bel_alloc (Below.refl _ _) (.cells #[.int .u64 0, .int .u64 0, .int .u64 0, .string ⟨#[]⟩] 24)))
      have HB3 := Kp.mk (bel_alloc HB2.out (.cells #[.int .u64 0, .int .u64 0, .int .u64 0, .string ⟨#[]⟩] 24))
      have c2 := blk_cell HQ3.out 2
      have f2 := blk_frozen HQ3.out 2
      clear hcd
      go_wp2_with fail
      generalize hW : (World.alloc (World.setCell _ _ _) _) = W
      have HQ : Kp (W.heap[w1.heap.size]? = some (.cells #[.string (strB d), .int .i64 N, .int .u8 2, .bool false] 39 (0, 0))) := ⟨by rw [← hW]; exact blk_keep (blk_set HQ2.out 2 (.int .u8 2)) (bel_alloc (Below.refl _ _) _)⟩
      have HR : Kp (W.heap[w.heap.size]? = some (.cells #[.int .u64 0, .int .u64 0, .int .u64 0, .string ⟨#[]⟩, .string ⟨#[]⟩] 45 (0, 0))) := ⟨by rw [← hW]; exact blk_keep (blk_far HR2.out (p := ⟨w1.heap.size, 2, none⟩) (by show w.heap.size ≠ w1.heap.size; omega) (.int .u8 2)) (bel_alloc (Below.refl _ _) _)⟩
      have HS : Kp (W.heap[w.heap.size + 1]? = some (.cells #[.string ⟨#[]⟩, .int .i64 0, .int .u8 0, .bool false] 39 (0, 0))) := ⟨by rw [← hW]; exact blk_keep (blk_far HS2.out (p := ⟨w1.heap.size, 2, none⟩) (by show w.heap.size + 1 ≠ w1.heap.size; omega) (.int .u8 2)) (bel_alloc (Below.refl _ _) _)⟩
      have HB : Kp (Below w.heap.size w W) := ⟨by rw [← hW]; exact bel_alloc (bel_set (p := ⟨w1.heap.size, 2, none⟩) HB2.out (by show w.heap.size ≤ w1.heap.size; omega) (.int .u8 2)) _⟩
      clear c2 f2 hW HQ2 HR2 HS2 HB2 HQ3 HR3 HS3 HB3
      refine wp_region_growR (Two w.heap.size w.heap.size (w.heap.size + 1) (.cells #[.int .u64 0, .int .u64 0, .int .u64 0, .string ⟨#[]⟩, .string ⟨#[]⟩] 45 (0, 0)) (.cells #[.int .u64 0, .int .u64 0, .int .u64 0, .string ⟨#[]⟩, .string ⟨#[]⟩] 45 (0, 0)) (.cells #[.string ⟨#[]⟩, .int .i64 0, .int .u8 0, .bool false] 39 (0, 0)) (.cells #[.string (strB d), .int .i64 N, .int .u8 2, .bool false] 39 (0, 0))) (fun _ => Two.refl _ _ _ _ _ _ _ _) (fun _ _ _ h k => h.trans k) (by kernel_rfl) 4 (by decide) (apart_of (by kernel_rfl)) (by kernel_rfl) (rbR w.heap.size #[.string (strB d), .int .i64 N, .int .u8 2, .bool false]) (fun _ _ _ _ => True) (fun _ _ _ _ h hb => by unfold rbR at *; split at h <;> first | exact h | exact hb.2.2.1.1 h | exact hb.2.2.2.1 h) ?_ ?_
      · intro j hj ob ho vs w5 hb5 hpre
        rcases j with _ | _ | _ | _ | j
        · obtain rfl := Option.some.inj ho
          simp only [canon, List.range, List.range.loop, List.foldl]
          go_simp
          exact ⟨rfl, Two.refl _ _ _ _ _ _ _ _⟩
        · have hq := hb5.keep HQ.out (by omega) (by omega)
          have c0 := blk_cell hq 0
          have c1 := blk_cell hq 1
          have c2 := blk_cell hq 2
          have c3 := blk_cell hq 3
          obtain rfl := Option.some.inj ho
          simp only [canon, List.range, List.range.loop, List.foldl]
          go_simp
          exact ⟨rfl, Two.refl _ _ _ _ _ _ _ _⟩
        · have e0 : vs 0 = _ := hpre 0 (by decide) (by obtain rfl := Option.some.inj ho; rfl)
          have hst := two_fst (B := w.heap.size) (r := w.heap.size) (s := w.heap.size + 1) (a := #[.int .u64 0, .int .u64 0, .int .u64 0, .string ⟨#[]⟩, .string ⟨#[]⟩]) (c := #[.int .u64 0, .int .u64 0, .int .u64 0, .string ⟨#[]⟩, .string ⟨#[]⟩]) (w := w5) (D := .cells #[.string ⟨#[]⟩, .int .i64 0, .int .u8 0, .bool false] 39 (0, 0)) (E := .cells #[.string (strB d), .int .i64 N, .int .u8 2, .bool false] 39 (0, 0)) [.int .u64 0, .int .u64 0, .int .u64 0, .string ⟨#[]⟩, .string ⟨#[]⟩] (hb5.2.2.1.2 HR.out) rfl rfl (by omega) (by omega)
          obtain ⟨⟨x0, c0⟩, f0⟩ := two_cell (hb5.2.2.1.2 HR.out) 0 (Nat.le_of_ble_eq_true rfl) (Nat.le_of_ble_eq_true rfl)
          obtain ⟨⟨x1, c1⟩, f1⟩ := two_cell (hb5.2.2.1.2 HR.out) 1 (Nat.le_of_ble_eq_true rfl) (Nat.le_of_ble_eq_true rfl)
          obtain ⟨⟨x2, c2⟩, f2⟩ := two_cell (hb5.2.2.1.2 HR.out) 2 (Nat.le_of_ble_eq_true rfl) (Nat.le_of_ble_eq_true rfl)
          obtain ⟨⟨x3, c3⟩, f3⟩ := two_cell (hb5.2.2.1.2 HR.out) 3 (Nat.le_of_ble_eq_true rfl) (Nat.le_of_ble_eq_true rfl)
          obtain ⟨⟨x4, c4⟩, f4⟩ := two_cell (hb5.2.2.1.2 HR.out) 4 (Nat.le_of_ble_eq_true rfl) (Nat.le_of_ble_eq_true rfl)
          simp only [putAll, Nat.zero_add, Nat.reduceAdd] at hst
          obtain rfl := Option.some.inj ho
          simp only [canon, List.range, List.range.loop, List.foldl]
          go_simp
          exact ⟨undef, hst.1⟩
        · have e1 : vs 1 = _ := hpre 1 (by decide) (by obtain rfl := Option.some.inj ho; rfl)
          have hst := two_snd (B := w.heap.size) (r := w.heap.size) (s := w.heap.size + 1) (a := #[.string ⟨#[]⟩, .int .i64 0, .int .u8 0, .bool false]) (c := #[.string (strB d), .int .i64 N, .int .u8 2, .bool false]) (w := w5) (A := .cells #[.int .u64 0, .int .u64 0, .int .u64 0, .string ⟨#[]⟩, .string ⟨#[]⟩] 45 (0, 0)) (C := .cells #[.int .u64 0, .int .u64 0, .int .u64 0, .string ⟨#[]⟩, .string ⟨#[]⟩] 45 (0, 0)) [.string (strB d), .int .i64 N, .int .u8 2, .bool false] (hb5.2.2.2.2 HS.out) rfl rfl (by omega) (by omega)
          obtain ⟨⟨x0, c0⟩, f0⟩ := two_cell (hb5.2.2.2.2 HS.out) 0 (Nat.le_of_ble_eq_true rfl) (Nat.le_of_ble_eq_true rfl)
          obtain ⟨⟨x1, c1⟩, f1⟩ := two_cell (hb5.2.2.2.2 HS.out) 1 (Nat.le_of_ble_eq_true rfl) (Nat.le_of_ble_eq_true rfl)
          obtain ⟨⟨x2, c2⟩, f2⟩ := two_cell (hb5.2.2.2.2 HS.out) 2 (Nat.le_of_ble_eq_true rfl) (Nat.le_of_ble_eq_true rfl)
          obtain ⟨⟨x3, c3⟩, f3⟩ := two_cell (hb5.2.2.2.2 HS.out) 3 (Nat.le_of_ble_eq_true rfl) (Nat.le_of_ble_eq_true rfl)
          simp only [putAll, Nat.zero_add, Nat.reduceAdd] at hst
          obtain rfl := Option.some.inj ho
          simp only [canon, List.range, List.range.loop, List.foldl]
          go_simp
          exact ⟨undef, hst.1⟩
        · omega
      · intro vs w5 hb5 hr5 _
        have hV := hr5 2 (by omega)
        have hL := hr5 3 (by omega)
        have HB5 := Kp.mk (HB.out.trans ((bel_drewN (Below.refl w.heap.size W) 1).trans hb5.1))
        clear hb5 hr5
        refine wpAny_none (by kernel_rfl) ?_ _
        generalize hA : canon _ _ vs 4 = FR
        have h6 : FR.tmps[6]? = some (.pointer (some ⟨w.heap.size, 0, none⟩)) := by rw [← hA, canon_keep _ (by kernel_rfl)]; rfl
        have h7 : FR.tmps[7]? = some (.pointer (some ⟨w.heap.size + 1, 0, none⟩)) := by rw [← hA, canon_keep _ (by kernel_rfl)]; rfl
        have hD : FR.defers = [] := by rw [← hA, canon_defers]
        clear hA
        go_wp2
        refine bodyPost_ret (res_cells_aa rfl _ _ w.heap.size (w.heap.size + 1) 45 39 #[.int .u64 0, .int .u64 0, .int .u64 0, .string ⟨#[]⟩, .string ⟨#[]⟩] #[.string (strB d), .int .i64 N, .int .u8 2, .bool false] _ _ (by rw [Array.getD_eq_getD_getElem?, h6]; rfl) (by rw [Array.getD_eq_getD_getElem?, h7]; rfl) hV hL Tryd.underlying45 rfl (by kernel_rfl) Tryd.underlying39 rfl (by kernel_rfl)) hD ?_
        exact ⟨by rw [HM.out]; unfold SbEnd; simp only; rw [HD.out]; try trivial, HB5.out⟩
    | some p =>
      obtain ⟨v, codec, code, dg, n⟩ := p
      rw [hcd] at hu
      obtain rfl : e = _ := hu
      have HD := Kp.mk hcd
      have hnl := (cdRead_le hcd).1
      have HN : Kp ((strB d).extract n (strB d).size = strB (d.drop n) ∧ n ≤ (strB d).size) := ⟨by rw [← strB_bl ((strB d).extract n _), cut_bl, bl_strB], by rw [strB_size]; exact hnl⟩
      have HQ := Kp.mk (blk_keep HQ2.out (bel_alloc (Below.refl _ _) (.cells #[.int .u64 v, .int .u64 codec, .int .u64 code, .string (strB dg)] 24)))
      have HR := Kp.mk (blk_keep HR2.out (bel_alloc (Below.refl _ _) (.cells #[.int .u64 v, .int .u64 codec, .int .u64 code, .string (strB dg)] 24)))
      have HS := Kp.mk (blk_keep HS2.out (bel_alloc (Below.refl _ _) (.cells #[.int .u64 v, .int .u64 codec, .int .u64 code, .string (strB dg)] 24)))
      have HB := Kp.mk (bel_alloc HB2.out (.cells #[.int .u64 v, .int .u64 codec, .int .u64 code, .string (strB dg)] 24))
      have HC := Kp.mk (blk_new (w := w2) (o := .cells #[.int .u64 v, .int .u64 codec, .int .u64 code, .string (strB dg)] 24) (Below.refl _ _))
      clear hcd hnl
      go_wp2_with fail
      generalize hW : w2.alloc _ = W at *
      clear hW HQ2 HR2 HS2 HB2
      refine wp_region_growR (Two w.heap.size w.heap.size (w.heap.size + 1) (.cells #[.int .u64 0, .int .u64 0, .int .u64 0, .string ⟨#[]⟩, .string ⟨#[]⟩] 45 (0, 0)) (.cells #[.int .u64 v, .int .u64 codec, .int .u64 code, .string (strB dg), .string (strB (d.drop n))] 45 (0, 0)) (.cells #[.string ⟨#[]⟩, .int .i64 0, .int .u8 0, .bool false] 39 (0, 0)) (.cells #[.string (strB d), .int .i64 N, .int .u8 0, .bool false] 39 (0, 0))) (fun _ => Two.refl _ _ _ _ _ _ _ _) (fun _ _ _ h k => h.trans k) (by kernel_rfl) 9 (by decide) (apart_of (by kernel_rfl)) (by kernel_rfl) (rcR w.heap.size 0 w1.heap.size #[.int .u64 v, .int .u64 codec, .int .u64 code, .string (strB dg)] #[.int .u64 v, .int .u64 codec, .int .u64 code, .string (strB dg), .string (strB (d.drop n))] #[.string (strB d), .int .i64 N, .int .u8 0, .bool false] (strB d) (strB (d.drop n)) n) (fun _ _ _ _ => True) (fun _ _ _ _ h hb => by unfold rcR at *; split at h <;> first | exact h | exact hb.2.2.1.1 h | exact hb.2.2.2.1 h) ?_ ?_
      · intro j hj ob ho vs w5 hb5 hpre
        rcases j with _ | _ | _ | _ | _ | _ | _ | _ | _ | j
        · have hq := hb5.keep HC.out (by omega) (by omega)
          have c0 := blk_cell hq 0
          have c1 := blk_cell hq 1
          have c2 := blk_cell hq 2
          have c3 := blk_cell hq 3
          obtain rfl := Option.some.inj ho
          simp only [canon, List.range, List.range.loop, List.foldl]
          go_simp
          exact ⟨rfl, Two.refl _ _ _ _ _ _ _ _⟩
        · obtain rfl := Option.some.inj ho
          simp only [canon, List.range, List.range.loop, List.foldl]
          go_simp
          exact ⟨rfl, Two.refl _ _ _ _ _ _ _ _⟩
        · have e1 : vs 1 = _ := hpre 1 (by decide) (by obtain rfl := Option.some.inj ho; rfl)
          have hq := hb5.keep HQ.out (by omega) (by omega)
          have c0 := blk_cell hq 0
          have c1 := blk_cell hq 1
          have c2 := blk_cell hq 2
          have c3 := blk_cell hq 3
          obtain rfl := Option.some.inj ho
          simp only [canon, List.range, List.range.loop, List.foldl]
          go_simp
          exact ⟨rfl, Two.refl _ _ _ _ _ _ _ _⟩
        · obtain rfl := Option.some.inj ho
          simp only [canon, List.range, List.range.loop, List.foldl]
          go_simp
          exact ⟨rfl, Two.refl _ _ _ _ _ _ _ _⟩
        · have e2 : vs 2 = _ := hpre 2 (by decide) (by obtain rfl := Option.some.inj ho; rfl)
          have e3 : vs 3 = _ := hpre 3 (by decide) (by obtain rfl := Option.some.inj ho; rfl)
          have hn := HN.out.2
          have hxe := HN.out.1
          obtain rfl := Option.some.inj ho
          simp only [canon, List.range, List.range.loop, List.foldl]
          go_simp
          exact ⟨rfl, Two.refl _ _ _ _ _ _ _ _⟩
        · have e0 : vs 0 = _ := hpre 0 (by decide) (by obtain rfl := Option.some.inj ho; rfl)
          have e4 : vs 4 = _ := hpre 4 (by decide) (by obtain rfl := Option.some.inj ho; rfl)
          obtain rfl := Option.some.inj ho
          simp only [canon, List.range, List.range.loop, List.foldl]
          go_simp
          exact ⟨rfl, Two.refl _ _ _ _ _ _ _ _⟩
        · have hq := hb5.keep HQ.out (by omega) (by omega)
          have c0 := blk_cell hq 0
          have c1 := blk_cell hq 1
          have c2 := blk_cell hq 2
          have c3 := blk_cell hq 3
          obtain rfl := Option.some.inj ho
          simp only [canon, List.range, List.range.loop, List.foldl]
          go_simp
          exact ⟨rfl, Two.refl _ _ _ _ _ _ _ _⟩
        · have e5 : vs 5 = _ := hpre 5 (by decide) (by obtain rfl := Option.some.inj ho; rfl)
          have hst := two_fst (B := w.heap.size) (r := w.heap.size) (s := w.heap.size + 1) (a := #[.int .u64 0, .int .u64 0, .int .u64 0, .string ⟨#[]⟩, .string ⟨#[]⟩]) (c := #[.int .u64 v, .int .u64 codec, .int .u64 code, .string (strB dg), .string (strB (d.drop n))]) (w := w5) (D := .cells #[.string ⟨#[]⟩, .int .i64 0, .int .u8 0, .bool false] 39 (0, 0)) (E := .cells #[.string (strB d), .int .i64 N, .int .u8 0, .bool false] 39 (0, 0)) [.int .u64 v, .int .u64 codec, .int .u64 code, .string (strB dg), .string (strB (d.drop n))] (hb5.2.2.1.2 HR.out) rfl rfl (by omega) (by omega)
          obtain ⟨⟨x0, c0⟩, f0⟩ := two_cell (hb5.2.2.1.2 HR.out) 0 (Nat.le_of_ble_eq_true rfl) (Nat.le_of_ble_eq_true rfl)
          obtain ⟨⟨x1, c1⟩, f1⟩ := two_cell (hb5.2.2.1.2 HR.out) 1 (Nat.le_of_ble_eq_true rfl) (Nat.le_of_ble_eq_true rfl)
          obtain ⟨⟨x2, c2⟩, f2⟩ := two_cell (hb5.2.2.1.2 HR.out) 2 (Nat.le_of_ble_eq_true rfl) (Nat.le_of_ble_eq_true rfl)
          obtain ⟨⟨x3, c3⟩, f3⟩ := two_cell (hb5.2.2.1.2 HR.out) 3 (Nat.le_of_ble_eq_true rfl) (Nat.le_of_ble_eq_true rfl)
          obtain ⟨⟨x4, c4⟩, f4⟩ := two_cell (hb5.2.2.1.2 HR.out) 4 (Nat.le_of_ble_eq_true rfl) (Nat.le_of_ble_eq_true rfl)
          simp only [putAll, Nat.zero_add, Nat.reduceAdd] at hst
          obtain rfl := Option.some.inj ho
          simp only [canon, List.range, List.range.loop, List.foldl]
          go_simp
          exact ⟨undef, hst.1⟩
        · have e6 : vs 6 = _ := hpre 6 (by decide) (by obtain rfl := Option.some.inj ho; rfl)
          have hst := two_snd (B := w.heap.size) (r := w.heap.size) (s := w.heap.size + 1) (a := #[.string ⟨#[]⟩, .int .i64 0, .int .u8 0, .bool false]) (c := #[.string (strB d), .int .i64 N, .int .u8 0, .bool false]) (w := w5) (A := .cells #[.int .u64 0, .int .u64 0, .int .u64 0, .string ⟨#[]⟩, .string ⟨#[]⟩] 45 (0, 0)) (C := .cells #[.int .u64 v, .int .u64 codec, .int .u64 code, .string (strB dg), .string (strB (d.drop n))] 45 (0, 0)) [.string (strB d), .int .i64 N, .int .u8 0, .bool false] (hb5.2.2.2.2 HS.out) rfl rfl (by omega) (by omega)
          obtain ⟨⟨x0, c0⟩, f0⟩ := two_cell (hb5.2.2.2.2 HS.out) 0 (Nat.le_of_ble_eq_true rfl) (Nat.le_of_ble_eq_true rfl)
          obtain ⟨⟨x1, c1⟩, f1⟩ := two_cell (hb5.2.2.2.2 HS.out) 1 (Nat.le_of_ble_eq_true rfl) (Nat.le_of_ble_eq_true rfl)
          obtain ⟨⟨x2, c2⟩, f2⟩ := two_cell (hb5.2.2.2.2 HS.out) 2 (Nat.le_of_ble_eq_true rfl) (Nat.le_of_ble_eq_true rfl)
          obtain ⟨⟨x3, c3⟩, f3⟩ := two_cell (hb5.2.2.2.2 HS.out) 3 (Nat.le_of_ble_eq_true rfl) (Nat.le_of_ble_eq_true rfl)
          simp only [putAll, Nat.zero_add, Nat.reduceAdd] at hst
          obtain rfl := Option.some.inj ho
          simp only [canon, List.range, List.range.loop, List.foldl]
          go_simp
          exact ⟨undef, hst.1⟩
        · omega
      · intro vs w5 hb5 hr5 _
        have hV := hr5 7 (by omega)
        have hL := hr5 8 (by omega)
        have HB5 := Kp.mk (HB.out.trans ((bel_drewN (Below.refl w.heap.size W) 1).trans hb5.1))
        clear hb5 hr5
        refine wpAny_none (by kernel_rfl) ?_ _
        generalize hA : canon _ _ vs 9 = FR
        have h6 : FR.tmps[6]? = some (.pointer (some ⟨w.heap.size, 0, none⟩)) := by rw [← hA, canon_keep _ (by kernel_rfl)]; rfl
        have h7 : FR.tmps[7]? = some (.pointer (some ⟨w.heap.size + 1, 0, none⟩)) := by rw [← hA, canon_keep _ (by kernel_rfl)]; rfl
        have hD : FR.defers = [] := by rw [← hA, canon_defers]
        clear hA
        go_wp2
        refine bodyPost_ret (res_cells_aa rfl _ _ w.heap.size (w.heap.size + 1) 45 39 #[.int .u64 v, .int .u64 codec, .int .u64 code, .string (strB dg), .string (strB (d.drop n))] #[.string (strB d), .int .i64 N, .int .u8 0, .bool false] _ _ (by rw [Array.getD_eq_getD_getElem?, h6]; rfl) (by rw [Array.getD_eq_getD_getElem?, h7]; rfl) hV hL Tryd.underlying45 rfl (by kernel_rfl) Tryd.underlying39 rfl (by kernel_rfl)) hD ?_
        exact ⟨by rw [HM.out]; unfold SbEnd; simp only; rw [HD.out]; try trivial, HB5.out⟩

end Go.Proofs.YtdppnlomhlnbkaaDoor
