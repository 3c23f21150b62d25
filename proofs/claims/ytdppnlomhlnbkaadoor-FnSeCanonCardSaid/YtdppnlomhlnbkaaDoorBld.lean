/- The walks of strings.Builder's copyCheck, WriteByte and Write at a builder in use. -/
import Derived.Test.YtdppnlomhlnbkaaDoorUvW
import Derived.Shelf.Strings.Builder1
import Derived.OwnWalk
namespace Go.Proofs.YtdppnlomhlnbkaaDoor
open Go.RowKit

/-- A builder in block b in use, that holds the bytes xs. -/
def Bld (B b : Nat) (xs : List UInt8) (w : World) : Prop := Lib.BuilderAt 146 5 B b (.pointer (some ⟨b, 0, none⟩)) (Lib.byteCells xs) w
theorem Bld.below {B b : Nat} {xs : List UInt8} {w w' : World} (h : Bld B b xs w) (hb : Below w.heap.size w w') : Bld B b xs w' := by
  obtain ⟨hB, v, hbk, ⟨hl, ho⟩, hne⟩ := h
  refine ⟨hB, v, blk_keep hbk hb, ⟨hl, ?_⟩, hne⟩
  rcases ho with ho | ⟨g, cap, cur, rfl, hg, hgg, rest⟩
  · exact .inl ho
  · exact .inr ⟨g, cap, cur, rfl, hg, blk_keep hgg hb, rest⟩
theorem Bld.lt {B b : Nat} {xs : List UInt8} {w : World} (h : Bld B b xs w) : b < w.heap.size := Lib.BuilderAt.lt h

set_option maxHeartbeats 1600000 in
set_option maxRecDepth 100000 in
theorem bldCheck_calls (B b : Nat) (xs : List UInt8) (w : World) (h : Bld B b xs w) :
    Calls Tryd.prog 73 #[.pointer (some ⟨b, 0, none⟩)] w fun e w' => e = .returned (.tuple #[]) ∧ w = w' := by
  have h0 : w.cell? ⟨b, 0, none⟩ = some (.pointer (some ⟨b, 0, none⟩)) := h.cell0
  obtain ⟨j, hj, _⟩ := Option.map_eq_some_iff.1 (show (Tryd.prog.info? 146).map (·.size) = some 2 by kernel_rfl)
  have HQ := Kp.mk (fun W : World => Lib.run_neq_ptr_same (P := Tryd.prog) (tp := 144) W ⟨b, 0, none⟩ Tryd.underlying144 hj)
  clear hj
  clear h
  go_enter Tryd.func73, Tryd.ntmps73
  go_wp2
  rw [HQ.out]
  go_wp2
  go_end0
  exact ⟨rfl, rfl⟩

/-- What appending to a builder's own row leaves. -/
theorem bldPut {B b : Nat} {xs ys : List UInt8} {v v' : Value} {w w1 : World} (hB : B ≤ b) (hbw : B ≤ w.heap.size) (hbk : w.heap[b]? = some (.cells #[.pointer (some ⟨b, 0, none⟩), v] 146 (0, 0))) (hown0 : w.ownsRow B 5 1 v xs.length (Lib.byteCells xs)) (hne : v.ownBlock ≠ some b)
    (hown : w1.ownsRow B 5 1 v' (xs.length + ys.length) (Lib.byteCells xs ++ Lib.byteCells ys)) (hg : w.grownBy w1 v.ownBlock) :
    w1.heap[b]? = some (.cells #[.pointer (some ⟨b, 0, none⟩), v] 146 (0, 0)) ∧ Bld B b (xs ++ ys) (w1.setCell ⟨b, 1, none⟩ v') ∧ Below B w (w1.setCell ⟨b, 1, none⟩ v') ∧ ∃ ao n cap, v' = .slice ao n cap := by
  have hlt : b < w.heap.size := (Array.getElem?_eq_some_iff.1 hbk).1
  have hb2 : w1.heap[b]? = some (.cells #[.pointer (some ⟨b, 0, none⟩), v] 146 (0, 0)) := by
    rw [hg.block b hlt (fun e => hne e.symm)]; exact hbk
  refine ⟨hb2, ?_, ?_, ?_⟩
  · have := Lib.BuilderAt.put (e := 5) (bs' := Lib.byteCells (xs ++ ys)) hB hb2 (by
      rw [show Lib.byteCells (xs ++ ys) = Lib.byteCells xs ++ Lib.byteCells ys by simp [Lib.byteCells], List.length_append, Lib.byteCells_length, Lib.byteCells_length]; exact hown) (by decide)
    exact this
  · exact ((Below.refl B w).grown hg hbw (fun k hk => (hown0.lt k hk).1)).setCell (p := ⟨b, 1, none⟩) hB _
  · rcases hown.2 with ⟨hv, _⟩ | ⟨g, cap, cur, hv, _⟩
    · exact ⟨_, _, _, hv⟩
    · exact ⟨_, _, _, hv⟩

set_option maxHeartbeats 2000000 in
set_option maxRecDepth 100000 in
/-- (*strings.Builder).Write of at least one byte. -/
theorem bldWrite_calls (B b : Nat) (xs : List UInt8) (g o n c : Nat) (ys : List UInt8) (w : World) (h : Bld B b xs w) (hr : RdB w (some ⟨g, o, none⟩) n c ys) (h0 : 0 < n) (hBw : B ≤ w.heap.size) (hlen : xs.length + n ≤ 140737488355328) :
    Calls Tryd.prog 66 #[.pointer (some ⟨b, 0, none⟩), .slice (some ⟨g, o, none⟩) n c] w fun e w' => e = .returned (.tuple #[.int .i64 n, .nilIface]) ∧ Bld B b (xs ++ ys) w' ∧ Below B w w' := by
  obtain ⟨i0, hi, hz0, hz1, hz2⟩ := info_parts info_u8
  have HC := Kp.mk (bldCheck_calls B b xs w h)
  obtain ⟨hB, v, hbk, hown, hne⟩ := h
  rw [Lib.byteCells_length] at hown
  have hyl := hr.len
  have c1 := blk_cell hbk 1
  have c0 := blk_cell hbk 0
  have HH := Kp.mk (fun (v' : Value) w1 hw hg => bldPut (ys := ys) (v' := v') (w1 := w1) hB hBw hbk hown hne (by rw [hyl]; exact hw) hg)
  have HN : Kp (∀ j u, (Lib.byteCells ys)[j]? = some u → w.cell? ((⟨g, o, none⟩ : Addr).add j) = some u) := ⟨fun j u hj => by
    obtain ⟨g', o', e, hcell⟩ := hr.lies h0
    have e' := Option.some.inj e
    simp only [Addr.mk.injEq] at e'
    obtain ⟨rfl, rfl, _⟩ := e'
    have hjl : j < ys.length := by have := (List.getElem?_eq_some_iff.1 hj).1; rwa [Lib.byteCells_length] at this
    rw [add_plain, hcell j hjl]
    simp [Lib.byteCells, List.getElem?_eq_getElem hjl] at hj
    rw [hj]⟩
  have HI := Kp.mk (And.intro hi (And.intro hz0 (And.intro hz1 (And.intro hz2 (And.intro hown (And.intro hyl hBw))))))
  clear hi hz0 hz1 hz2 hown hr hyl hBw hbk hB hne
  go_enter Tryd.func66, Tryd.ntmps66
  go_wp2_with fail
  refine HC.out.mono ?_
  rintro e w' ⟨rfl, rfl⟩
  clear HC
  go_wp2_with (at_builtin; refine wpList_append_own _ rfl _ _ 62 rfl B 5 i0 (.int .u8 0) 1 1 Tryd.underlying62 HI.out.1 HI.out.2.1 HI.out.2.2.1 HI.out.2.2.2.1 rfl (by decide) _ _ _ rfl HI.out.2.2.2.2.1 ⟨g, o, none⟩ n c (Lib.byteCells ys) rfl ?c1 HN.out ?c2 ?c3 ?c4 HI.out.2.2.2.2.2.2 ?_)
  case c1 => rw [Lib.byteCells_length, HI.out.2.2.2.2.2.1]; omega
  case c2 =>
    intro u hu
    simp only [Lib.byteCells, List.mem_map] at hu
    obtain ⟨x, _, rfl⟩ := hu
    rfl
  case c3 => unfold maxLen; omega
  case c4 => omega
  intro v' w2 hown' hgrow _
  obtain ⟨hb2, hbl, hbel, ao, n', cap, rfl⟩ := HH.out v' w2 hown' hgrow
  have d0 := blk_cell hb2 0
  have d1 := blk_cell hb2 1
  have f1 := blk_frozen hb2 1
  have HE := Kp.mk (And.intro hbl hbel)
  clear hown' hgrow hbl hbel hb2
  go_wp2_with fail
  go_ret2
  exact ⟨rfl, HE.out.1, HE.out.2⟩

set_option maxHeartbeats 2000000 in
set_option maxRecDepth 100000 in
/-- (*strings.Builder).WriteByte. -/
theorem bldByte_calls (B b : Nat) (xs : List UInt8) (x : Nat) (hx : x < 256) (w : World) (h : Bld B b xs w) (hBw : B ≤ w.heap.size) (hlen : xs.length + 1 ≤ 140737488355328) :
    Calls Tryd.prog 65 #[.pointer (some ⟨b, 0, none⟩), .int .u8 (x : Int)] w fun e w' => e = .returned .nilIface ∧ Bld B b (xs ++ [UInt8.ofNat x]) w' ∧ Below B w w' := by
  obtain ⟨i0, hi, hz0, hz1, hz2⟩ := info_parts info_u8
  have HC := Kp.mk (bldCheck_calls B b xs w h)
  have hw : Below w.heap.size w (w.alloc (.cells #[.int .u8 (x : Int)] 5)) := bel_alloc (Below.refl _ _) _
  have hbl1 := h.below hw
  obtain ⟨hB, v, hbk, _, _⟩ := h
  obtain ⟨_, v1, hbk1, hown, hne⟩ := hbl1
  have hv : v1 = v := by
    have := (blk_keep hbk hw).symm.trans hbk1
    simpa using this.symm
  subst hv
  rw [Lib.byteCells_length] at hown
  have hce : Lib.byteCells [UInt8.ofNat x] = [.int .u8 (x : Int)] := by
    simp only [Lib.byteCells, List.map_cons, List.map_nil, UInt8.toNat_ofNat', Nat.mod_eq_of_lt (show x < 2 ^ 8 by omega)]
  have c1 := blk_cell hbk 1
  have c0 := blk_cell hbk 0
  have hBw1 : B ≤ (w.alloc (.cells #[.int .u8 (x : Int)] 5)).heap.size := by have := hw.size; omega
  have HH := Kp.mk (fun (v' : Value) w1 hw2 hg => bldPut (ys := [UInt8.ofNat x]) (v' := v') (w1 := w1) hB hBw1 hbk1 hown hne (by rw [hce]; exact hw2) hg)
  have HI := Kp.mk (And.intro hi (And.intro hz0 (And.intro hz1 (And.intro hz2 (And.intro hown (And.intro hBw1 (hw.mono hBw)))))))
  clear hi hz0 hz1 hz2 hown hBw hbk hB hne hw hbk1 hce hBw1
  go_enter Tryd.func65, Tryd.ntmps65
  go_wp2_with fail
  refine HC.out.mono ?_
  rintro e w' ⟨rfl, rfl⟩
  clear HC
  go_wp2_with (at_builtin; refine wpList_append_own _ rfl _ _ 62 rfl B 5 i0 (.int .u8 0) 1 1 Tryd.underlying62 HI.out.1 HI.out.2.1 HI.out.2.2.1 HI.out.2.2.2.1 rfl (by decide) _ _ _ rfl HI.out.2.2.2.2.1 ⟨w.heap.size, 0, none⟩ 1 1 [.int .u8 (x : Int)] rfl rfl ?c1 ?c2 ?c3 ?c4 HI.out.2.2.2.2.2.1 ?_)
  case c1 =>
    intro j u hj
    match j, hj with
    | 0, hj => simp at hj; subst hj; simp [Addr.add]
  case c2 => intro u hu; simp at hu; subst hu; rfl
  case c3 => unfold maxLen; omega
  case c4 => omega
  intro v' w2 hown' hgrow _
  obtain ⟨hb2, hbl, hbel, ao, n', cap, rfl⟩ := HH.out v' w2 hown' hgrow
  have d0 := blk_cell hb2 0
  have d1 := blk_cell hb2 1
  have f1 := blk_frozen hb2 1
  have HE := Kp.mk (And.intro hbl (HI.out.2.2.2.2.2.2.trans hbel))
  clear hown' hgrow hbl hbel hb2
  go_wp2_with fail
  go_ret
  exact ⟨rfl, HE.out.1, HE.out.2⟩

end Go.Proofs.YtdppnlomhlnbkaaDoor
