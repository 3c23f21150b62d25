/- Some texts in one: Within, IiFits, IiLoops, OfDig, IiOff, IiLaw. -/
import Derived.Test.YtgjocdnpephcgaaGreatDoorGetA
import Derived.Maps.OwnOps
import Derived.Maps.Views
import Derived.Test.YtgjocdnpephcgaaGreatDoorIxA
namespace Go.Proofs.YtgjocdnpephcgaaGreatDoor
open Go.RowKit Go.Maps

/-- A slice that reads as these numbers. -/
structure RdU (w : World) (A : Option Addr) (n c : Nat) (xs : List Nat) : Prop where
  len : xs.length = n
  lies : 0 < n → ∃ g o, A = some ⟨g, o, none⟩ ∧ ∀ i (h : i < xs.length), w.cell? ⟨g, o + i, none⟩ = some (.int .u64 xs[i])
theorem RdU.below {w w1 : World} {A : Option Addr} {n c : Nat} {xs : List Nat} (h : RdU w A n c xs) (hb : Below w.heap.size w w1) : RdU w1 A n c xs :=
  ⟨h.len, fun h0 => by
    obtain ⟨g, o, e, hc⟩ := h.lies h0
    exact ⟨g, o, e, fun i hi => cell_bel hb (hc i hi)⟩⟩
theorem rdU_own {w : World} {base : Nat} {A : Option Addr} {cap : Nat} {xs : List Nat} (h : w.ownsRow base 23 1 (.slice A xs.length cap) xs.length (xs.map fun (y : Nat) => Value.int .u64 (y : Int))) : RdU w A xs.length cap xs := by
  refine ⟨rfl, fun h0 => ?_⟩
  rcases h.2 with ⟨_, h1⟩ | ⟨g, cap', cur, he, _, hb, hle, _, hs, ht⟩
  · omega
  · simp at he
    obtain ⟨rfl, rfl⟩ := he
    refine ⟨g, 0, rfl, fun i hi => ?_⟩
    rw [blk_cell hb, Nat.zero_add]
    have h2 : (cur.toList.take (xs.length * 1))[i]? = some (.int .u64 xs[i]) := by rw [ht]; simp [hi]
    rw [Nat.mul_one, List.getElem?_take, if_pos hi] at h2
    simpa using h2

/-- A map of numbers that counts so. -/
def MapN (b N : Nat) (w : World) (f : Nat → Int) : Prop := ∃ D : DataW Unit, w.ownsMap Tryz.prog 23 (plainElem Tryz.prog 3) b N D ∧ IsMap D ∧ ∀ x : Nat, x < 18446744073709551616 → D.atKey (.int .u64 x) (.lit (.int .i64 0)) = .lit (.int .i64 (f x))
theorem u64_keyed : Keyed Tryz.prog 23 := int_keyed Tryz.underlying23
theorem u64_wf (x : Nat) (h : x < 18446744073709551616) : (Lit.int .u64 x).wf = true := by
  have h1 : IntKind.u64.min = 0 := rfl
  have h2 : IntKind.u64.max = 18446744073709551615 := rfl
  simp only [Lit.wf, h1, h2, Bool.and_eq_true, decide_eq_true_eq]
  omega
theorem int_zero (w : World) : (zeroValue 3).run Tryz.prog w = .ok (.int .i64 0) w := by kernel_rfl

/-- How often a number stands in a list. -/
def cnt (xs : List Nat) (x : Nat) : Int := ((xs.filter fun y => decide (y = x)).length : Int)
theorem cnt_succ (xs : List Nat) (i : Nat) (h : i < xs.length) (x : Nat) : cnt (xs.take (i + 1)) x = cnt (xs.take i) x + if xs[i] = x then 1 else 0 := by
  unfold cnt
  rw [List.take_succ_eq_append_getElem h, List.filter_append, List.length_append]
  by_cases hx : xs[i] = x <;> simp [hx]
theorem cnt_take_le (xs : List Nat) (i : Nat) (x : Nat) : cnt (xs.take i) x ≤ cnt xs x := by
  unfold cnt
  conv => rhs; rw [← List.take_append_drop i xs, List.filter_append, List.length_append]
  omega
theorem cnt_nonneg (xs : List Nat) (x : Nat) : 0 ≤ cnt xs x := by unfold cnt; omega
theorem cnt_le (xs : List Nat) (x : Nat) : cnt xs x ≤ xs.length := by unfold cnt; have := List.length_filter_le (fun y => decide (y = x)) xs; omega

theorem MapN.put {b N : Nat} {w' : World} {f : Nat → Int} {D : DataW Unit} (hM : IsMap D) (hD : ∀ x : Nat, x < 18446744073709551616 → D.atKey (.int .u64 x) (.lit (.int .i64 0)) = .lit (.int .i64 (f x))) (k : Nat) (z : Int) (hown : w'.ownsMap Tryz.prog 23 (plainElem Tryz.prog 3) b N (D.put (.int .u64 k) (.lit (.int .i64 z)))) :
    MapN b N w' (fun x => if x = k then z else f x) := by
  refine ⟨_, hown, hM.put _ _, fun x hx => ?_⟩
  by_cases h : x = k
  · subst h
    simp only [if_true]
    exact atKey_put_same hM (by unfold WideAt.IsKeyLit; trivial) _ _
  · simp only [if_neg h]
    rw [atKey_put_other (fun e => h (by injection e with e1 e2; omega))]
    exact hD x hx







































































































































end Go.Proofs.YtgjocdnpephcgaaGreatDoor
namespace Go.Proofs.YtgjocdnpephcgaaGreatDoor
open Go.RowKit

set_option maxHeartbeats 1000000 in
/-- laws.zzFits8. -/
theorem fits8_calls (E : Ent) (w : World) :
    Calls Tryz.prog 12 #[.agg #[.int .u64 E.v, .int .u64 E.codec, .int .u64 E.code, .string E.s, .int .u64 E.off]] w fun e w' => e = .returned (.bool (decide (E.s.size ≤ 2147483647))) ∧ Below w.heap.size w w' := by
  have HF := Kp.mk (fun o => fits1_calls E.v E.codec E.code E.s (w.alloc o))
  go_enter Tryz.func12, Tryz.ntmps12
  go_wp2_with fail
  refine (HF.out _).mono ?_
  rintro e w1 ⟨rfl, hb⟩
  have HB := Kp.mk (bel_new hb)
  clear hb HF
  by_cases h : E.s.size ≤ 2147483647
  · rw [decide_eq_true h]
    have HH := Kp.mk h
    clear h
    go_wp2_with fail
    go_ret
    exact ⟨by rw [decide_eq_true HH.out]; rfl, HB.out⟩
  · rw [decide_eq_false h]
    have HH := Kp.mk h
    clear h
    go_wp2_with fail
    go_ret
    exact ⟨by rw [decide_eq_false HH.out]; rfl, HB.out⟩

set_option maxHeartbeats 4000000 in
set_option maxRecDepth 100000 in
/-- laws.zzFits7. -/
theorem fits7_calls (A : Option Addr) (n c : Nat) (es : List Ent) (w : World) (hr : RdE w A n c es) :
    Calls Tryz.prog 4 #[.slice A n c] w fun e w' => e = .returned (.bool (decide (n ≤ 2147483647 ∧ ∀ x ∈ es, x.s.size ≤ 2147483647))) ∧ Below w.heap.size w w' := by
  have HR := Kp.mk hr
  have hlen := Kp.mk hr.len
  clear hr
  by_cases hn : n ≤ 2147483647
  case neg =>
    have HD : Kp (decide (n ≤ 2147483647 ∧ ∀ x ∈ es, x.s.size ≤ 2147483647) = false) := ⟨decide_eq_false (fun h => hn h.1)⟩
    rw [HD.out]
    go_enter Tryz.func4, Tryz.ntmps4
    go_wp2_with fail
    go_ret
    exact ⟨rfl, Below.refl _ _⟩
  have HN := Kp.mk hn
  go_enter Tryz.func4, Tryz.ntmps4
  go_wp2_with fail
  go_loopw [10] (fun vi wr => ∃ i : Nat, vi = .int .i64 (i : Int) ∧ i ≤ n ∧ Kp ((∀ x ∈ es.take i, x.s.size ≤ 2147483647) ∧ Below w.heap.size w wr))
    (fun vi _ => n - (match vi with | .int _ z => z.toNat | _ => 0))
  case atStart => exact ⟨0, rfl, Nat.zero_le _, ⟨fun x hx => by simp at hx, Below.refl _ _⟩⟩
  case round =>
    obtain ⟨i, rfl, hi, HI⟩ := hrel
    by_cases hin : i < n
    · have hil : i < es.length := by rw [hlen.out]; exact hin
      obtain ⟨gE, o, rfl, hc⟩ := (HR.out.below HI.out.2).lies (by omega)
      have c0 := hc i hil 0 (by omega)
      have c1 := hc i hil 1 (by omega)
      have c2 := hc i hil 2 (by omega)
      have c3 := hc i hil 3 (by omega)
      have c4 := hc i hil 4 (by omega)
      have HT := Kp.mk (List.take_succ_eq_append_getElem hil)
      have HM := Kp.mk (List.getElem_mem hil)
      obtain ⟨E, hE⟩ : ∃ E, E = es[i] := ⟨_, rfl⟩
      rw [← hE] at c0 c1 c2 c3 c4 HT HM
      simp only [Ent.cell, Nat.add_zero] at c0 c1 c2 c3 c4
      clear hc hE
      have HF := Kp.mk (fun w => fits8_calls E w)
      have HB1 := Kp.mk (fun o => bel_then HI.out.2 (bel_alloc (Below.refl wr.heap.size wr) o))
      go_wp2_with fail
      refine (HF.out _).mono ?_
      rintro e w2 ⟨rfl, hb⟩
      have HB2 := Kp.mk (bel_then (HB1.out _) hb)
      clear hb HF HB1 c0 c1 c2 c3 c4
      by_cases h : E.s.size ≤ 2147483647
      · rw [decide_eq_true h]
        have HH : Kp ((∀ x ∈ es.take (i + 1), x.s.size ≤ 2147483647) ∧ Below w.heap.size w w2) := ⟨fun x hx => by
          rw [HT.out] at hx
          rcases List.mem_append.1 hx with hx | hx
          · exact HI.out.1 x hx
          · simp at hx; subst hx; exact h, HB2.out⟩
        clear h
        go_wp2_with fail
        go_roundw
        case rel => exact ⟨i + 1, by simp, by omega, HH⟩
        case measure => simp; omega
      · rw [decide_eq_false h]
        have HD : Kp (decide (n ≤ 2147483647 ∧ ∀ x ∈ es, x.s.size ≤ 2147483647) = false) := ⟨decide_eq_false (fun hh => h (hh.2 E HM.out))⟩
        clear h
        go_wp2_with fail
        go_ret
        exact ⟨by rw [HD.out]; rfl, HB2.out⟩
    · have hin' : i = n := by omega
      subst hin'
      have HD : Kp (decide (i ≤ 2147483647 ∧ ∀ x ∈ es, x.s.size ≤ 2147483647) = true) := ⟨decide_eq_true ⟨HN.out, by have := HI.out.1; rw [List.take_of_length_le (by rw [hlen.out]; exact Nat.le_refl _)] at this; exact this⟩⟩
      go_wp2_with fail
      go_ret
      exact ⟨by rw [HD.out]; rfl, HI.out.2⟩

end Go.Proofs.YtgjocdnpephcgaaGreatDoor
namespace Go.Proofs.YtgjocdnpephcgaaGreatDoor
open Go.RowKit

instance (E : Ent) : Decidable E.ok := by unfold Ent.ok; infer_instance

set_option maxHeartbeats 2000000 in
/-- laws.stCid. -/
theorem stCid_calls (v codec code : Nat) (s : ByteArray) (w : World) :
    Calls Tryz.prog 7 #[.agg #[.int .u64 v, .int .u64 codec, .int .u64 code, .string s]] w fun e w' => e = .returned (.bool (decide (Tidy v codec code s ∧ 0 < s.size ∧ s.size ≤ 200))) ∧ Below w.heap.size w w' := by
  have HT := Kp.mk (fun o => tidy_calls v codec code s (w.alloc o))
  obtain ⟨k, hk⟩ : ∃ k, k = s.size := ⟨_, rfl⟩
  go_enter Tryz.func7, Tryz.ntmps7
  go_wp2_with fail
  refine (HT.out _).mono ?_
  rintro e w1 ⟨rfl, hb⟩
  have HB := Kp.mk (bel_new hb)
  have hg := blk_new hb
  have c3 := blk_cell hg 3
  clear hb HT hg
  by_cases hT : Tidy v codec code s
  · rw [decide_eq_true hT]
    by_cases h0 : 0 < s.size
    · by_cases h2 : s.size ≤ 200
      · have HD : Kp (decide (Tidy v codec code s ∧ 0 < s.size ∧ s.size ≤ 200) = true) := ⟨decide_eq_true ⟨hT, h0, h2⟩⟩
        have HH := Kp.mk h2
        clear hT
        go_wp2_with fail
        go_ret
        refine ⟨?_, HB.out⟩
        rw [HD.out]
        first
          | rfl
          | (have hd : decide ((s.size : Int) ≤ 200) = true := decide_eq_true (by have := HH.out; omega)
             simp only [hd]; rfl)
      · have HD : Kp (decide (Tidy v codec code s ∧ 0 < s.size ∧ s.size ≤ 200) = false) := ⟨decide_eq_false (fun h => h2 h.2.2)⟩
        have HH := Kp.mk h2
        clear hT
        go_wp2_with fail
        go_ret
        refine ⟨?_, HB.out⟩
        rw [HD.out]
        first
          | rfl
          | (have hd : decide ((s.size : Int) ≤ 200) = false := decide_eq_false (by have := HH.out; omega)
             simp only [hd]; rfl)
    · have HD : Kp (decide (Tidy v codec code s ∧ 0 < s.size ∧ s.size ≤ 200) = false) := ⟨decide_eq_false (fun h => h0 h.2.1)⟩
      clear hT
      go_wp2_with fail
      go_ret
      exact ⟨by rw [HD.out]; rfl, HB.out⟩
  · rw [decide_eq_false hT]
    have HD : Kp (decide (Tidy v codec code s ∧ 0 < s.size ∧ s.size ≤ 200) = false) := ⟨decide_eq_false (fun h => hT h.1)⟩
    clear hT
    go_wp2_with fail
    go_ret
    exact ⟨by rw [HD.out]; rfl, HB.out⟩

set_option maxHeartbeats 4000000 in
set_option maxRecDepth 100000 in
/-- laws.stEntries. -/
theorem stEntries_calls (A : Option Addr) (n c : Nat) (es : List Ent) (w : World) (hr : RdE w A n c es) :
    Calls Tryz.prog 6 #[.slice A n c] w fun e w' => e = .returned (.bool (decide (n ≤ 60 ∧ ∀ x ∈ es, x.ok))) ∧ Below w.heap.size w w' := by
  have HR := Kp.mk hr
  have hlen := Kp.mk hr.len
  clear hr
  by_cases hn : n ≤ 60
  case neg =>
    have HD : Kp (decide (n ≤ 60 ∧ ∀ x ∈ es, x.ok) = false) := ⟨decide_eq_false (fun h => hn h.1)⟩
    go_enter Tryz.func6, Tryz.ntmps6
    go_wp2_with fail
    refine wp_loop_rounds 1 ?_
    rw [rounds_succ]
    go_wp2_with fail
    go_ret
    exact ⟨by first | rfl | (rw [HD.out]; rfl) | (rw [HD.out]; simp), Below.refl _ _⟩
  have HN := Kp.mk hn
  go_enter Tryz.func6, Tryz.ntmps6
  go_wp2_with fail
  go_loopw [3, 4] (fun vb vi wr => ∃ i : Nat, vi = .int .i64 (i : Int) ∧ i ≤ n ∧ ((vb = .bool true ∧ Kp (∀ x ∈ es.take i, x.ok)) ∨ (vb = .bool false ∧ Kp (¬ ∀ x ∈ es, x.ok))) ∧ Kp (Below w.heap.size w wr))
    (fun _ vi _ => n - (match vi with | .int _ z => z.toNat | _ => 0))
  case atStart => exact ⟨0, rfl, Nat.zero_le _, .inl ⟨by simp; omega, ⟨fun x hx => by simp at hx⟩⟩, ⟨Below.refl _ _⟩⟩
  case round =>
    obtain ⟨i, rfl, hi, hv, HI⟩ := hrel
    rcases hv with ⟨rfl, HO⟩ | ⟨rfl, HO⟩
    · by_cases hin : i < n
      · have hil : i < es.length := by rw [hlen.out]; exact hin
        obtain ⟨gE, o, rfl, hc⟩ := (HR.out.below HI.out).lies (by omega)
        have c0 := hc i hil 0 (by omega)
        have c1 := hc i hil 1 (by omega)
        have c2 := hc i hil 2 (by omega)
        have c3 := hc i hil 3 (by omega)
        have HT := Kp.mk (List.take_succ_eq_append_getElem hil)
        have HM := Kp.mk (List.getElem_mem hil)
        obtain ⟨E, hE⟩ : ∃ E, E = es[i] := ⟨_, rfl⟩
        rw [← hE] at c0 c1 c2 c3 HT HM
        simp only [Ent.cell, Nat.add_zero] at c0 c1 c2 c3
        clear hc hE
        have HF := Kp.mk (fun w => stCid_calls E.v E.codec E.code E.s w)
        go_wp2_with fail
        refine (HF.out _).mono ?_
        rintro e w2 ⟨rfl, hb⟩
        have HB2 : Kp (Below w.heap.size w w2) := ⟨bel_then HI.out hb⟩
        clear hb HF c0 c1 c2 c3
        by_cases h : Tidy E.v E.codec E.code E.s ∧ 0 < E.s.size ∧ E.s.size ≤ 200
        · rw [decide_eq_true h]
          have HH : Kp (∀ x ∈ es.take (i + 1), x.ok) := ⟨fun x hx => by
            rw [HT.out] at hx
            rcases List.mem_append.1 hx with hx | hx
            · exact HO.out x hx
            · simp at hx; subst hx; exact h⟩
          clear h
          go_wp2_with fail
          go_roundw
          case rel => exact ⟨i + 1, by simp, by omega, .inl ⟨rfl, HH⟩, HB2⟩
          case measure => simp; omega
        · rw [decide_eq_false h]
          have HH : Kp (¬ ∀ x ∈ es, x.ok) := ⟨fun hh => h (hh E HM.out)⟩
          clear h
          go_wp2_with fail
          go_roundw
          case rel => exact ⟨i + 1, by simp, by omega, .inr ⟨rfl, HH⟩, HB2⟩
          case measure => simp; omega
      · have hin' : i = n := by omega
        subst hin'
        have HD : Kp (decide (i ≤ 60 ∧ ∀ x ∈ es, x.ok) = true) := ⟨decide_eq_true ⟨HN.out, by have := HO.out; rw [List.take_of_length_le (by rw [hlen.out]; exact Nat.le_refl _)] at this; exact this⟩⟩
        go_wp2_with fail
        go_ret
        exact ⟨by first | rfl | (rw [HD.out]; rfl) | (rw [HD.out]; simp), HI.out⟩
    · have HD : Kp (decide (n ≤ 60 ∧ ∀ x ∈ es, x.ok) = false) := ⟨decide_eq_false (fun hh => HO.out hh.2)⟩
      go_wp2_with fail
      go_ret
      exact ⟨by first | rfl | (rw [HD.out]; rfl) | (rw [HD.out]; simp), HI.out⟩

end Go.Proofs.YtgjocdnpephcgaaGreatDoor
namespace Go.Proofs.YtgjocdnpephcgaaGreatDoor
open Go.RowKit

/-- The offsets of the entries of a digest, in their order. -/
def offsE (s : ByteArray) (es : List Ent) : List Nat := (es.filter fun e => decide (e.s = s)).map (·.off)
theorem offsE_succ (s : ByteArray) (es : List Ent) (i : Nat) (h : i < es.length) : offsE s (es.take (i + 1)) = offsE s (es.take i) ++ if es[i].s = s then [es[i].off] else [] := by
  unfold offsE
  rw [List.take_succ_eq_append_getElem h, List.filter_append, List.map_append]
  by_cases hx : es[i].s = s <;> simp [hx]
theorem bytes_eql (a b : ByteArray) : (a.toList == b.toList) = decide (a = b) := by
  by_cases h : a = b
  · subst h; simp
  · rw [decide_eq_false h, beq_eq_false_iff_ne]
    intro e
    rw [ByteArray.toList_eq, ByteArray.toList_eq] at e
    exact h (by cases a; cases b; simp at e; rw [e])















































































end Go.Proofs.YtgjocdnpephcgaaGreatDoor
namespace Go.Proofs.YtgjocdnpephcgaaGreatDoor
open Go.RowKit

theorem insK_perm (x : List UInt8 × ByteArray × Nat) : ∀ L, (insK x L).Perm (x :: L)
  | [] => List.Perm.refl _
  | y :: L => by
    unfold insK
    split
    · exact List.Perm.refl _
    · exact (List.Perm.cons y (insK_perm x L)).trans (List.Perm.swap x y L)
def SortK (L : List (List UInt8 × ByteArray × Nat)) : Prop := L.Pairwise fun a b => dLe a.1 b.1
theorem insK_sorted {x : List UInt8 × ByteArray × Nat} : ∀ {L}, SortK L → SortK (insK x L)
  | [], _ => by simp [insK, SortK]
  | y :: L, h => by
    unfold insK
    split
    · rename_i hlt
      refine List.Pairwise.cons (fun z hz => ?_) h
      rcases List.mem_cons.1 hz with rfl | hz
      · exact dLe_of_lt hlt
      · exact dLe_trans (dLe_of_lt hlt) ((List.pairwise_cons.1 h).1 z hz)
    · rename_i hlt
      obtain ⟨h1, h2⟩ := List.pairwise_cons.1 h
      refine List.Pairwise.cons (fun z hz => ?_) (insK_sorted h2)
      rcases List.mem_cons.1 ((insK_perm x L).mem_iff.1 hz) with rfl | hz
      · simpa [dLe] using hlt
      · exact h1 z hz
theorem offsK_none {D : List UInt8} {L : List (List UInt8 × ByteArray × Nat)} (h : ∀ z ∈ L, z.1 ≠ D) : offsK D L = [] := by
  unfold offsK
  rw [List.filter_eq_nil_iff.2 (fun z hz => by simp [h z hz])]
  rfl
theorem offsK_cons (D : List UInt8) (y : List UInt8 × ByteArray × Nat) (L) : offsK D (y :: L) = (if y.1 = D then [y.2.2] else []) ++ offsK D L := by
  unfold offsK
  by_cases h : y.1 = D <;> simp [h]
theorem offsK_ins (D : List UInt8) (x : List UInt8 × ByteArray × Nat) : ∀ L, SortK L → offsK D (insK x L) = offsK D L ++ if x.1 = D then [x.2.2] else []
  | [], _ => by
    unfold insK
    rw [offsK_cons]
    simp [offsK]
  | y :: L, h => by
    obtain ⟨h1, h2⟩ := List.pairwise_cons.1 h
    unfold insK
    split
    · rename_i hlt
      rw [offsK_cons D x]
      by_cases hx : x.1 = D
      · rw [if_pos hx, offsK_none (L := y :: L)]
        · rfl
        · intro z hz e
          have hle : dLe y.1 z.1 := by
            rcases List.mem_cons.1 hz with rfl | hz
            · exact dLe_refl _
            · exact h1 z hz
          have hl : dLt x.1 y.1 = false := by
            have : dLe y.1 x.1 := by rw [hx, ← e]; exact hle
            exact this
          rw [hl] at hlt
          cases hlt
      · rw [if_neg hx]; simp
    · rw [offsK_cons, offsK_cons, offsK_ins D x L h2, List.append_assoc]
theorem bl_ext {a b : ByteArray} (h : bl a = bl b) : a = b := by
  unfold bl at h
  cases a; cases b
  simp at h
  rw [h]
theorem offs_keys (s : ByteArray) (es : List Ent) : offsK (bl s) (keysOf es) = offsE s es := by
  have h : ∀ (es : List Ent) K, SortK K → offsK (bl s) (es.foldl (fun K e => insK e.key K) K) = offsK (bl s) K ++ offsE s es := fun es => by
    induction es with
    | nil => intro K _; simp [offsE]
    | cons e es ih =>
      intro K hK
      rw [List.foldl_cons, ih _ (insK_sorted hK), offsK_ins _ _ _ hK, List.append_assoc]
      congr 1
      unfold offsE
      by_cases hs : e.s = s
      · rw [if_pos (by rw [← hs]; rfl), List.filter_cons, if_pos (by simp [hs])]; rfl
      · rw [if_neg (show ¬ e.key.1 = bl s from fun hk => hs (bl_ext hk)), List.filter_cons, if_neg (by simp [hs])]; rfl
  have := h es [] List.Pairwise.nil
  rw [show keysOf es = es.foldl (fun K e => insK e.key K) [] from rfl, this]
  rfl
theorem offsE_lt {N : Nat} (s : ByteArray) (es : List Ent) (h : ∀ e ∈ es, e.off < N) : ∀ x ∈ offsE s es, x < N := by
  intro x hx
  unfold offsE at hx
  obtain ⟨e, he, rfl⟩ := List.mem_map.1 hx
  exact h e (List.mem_filter.1 he).1
theorem offsE_length (s : ByteArray) (es : List Ent) : (offsE s es).length ≤ es.length := by
  unfold offsE
  rw [List.length_map]
  exact List.length_filter_le _ _

end Go.Proofs.YtgjocdnpephcgaaGreatDoor
namespace Go.Proofs.YtgjocdnpephcgaaGreatDoor
open Go.RowKit


















































































































































































end Go.Proofs.YtgjocdnpephcgaaGreatDoor
