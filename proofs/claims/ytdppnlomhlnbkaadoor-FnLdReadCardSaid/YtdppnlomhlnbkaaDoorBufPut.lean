/- (*bytes.Buffer).Write, with the frame that reaches the rows that a conversion of a string has made. -/
import Derived.Test.YtdppnlomhlnbkaaDoorPutArr
import Derived.OwnWalk
import Derived.Lib.BufferKept
import Derived.Lib.BufferWrite
import Derived.Lib.BufferSrc
import Derived.Laws.IdiomCopy
namespace Go.Proofs.YtdppnlomhlnbkaaDoor
open Go.RowKit

/-- The rows that bear a mark stand as they stood. -/
def Marked (w w' : World) : Prop := ∀ (k : Nat) (cs : Array Value) (t : TypeId) (fz : Nat × Nat), w.heap[k]? = some (.cells cs t fz) → fz ≠ (0, 0) → w'.heap[k]? = some (.cells cs t fz)
theorem Marked.refl (w : World) : Marked w w := fun _ _ _ _ h _ => h
theorem Marked.trans {a b c : World} (h : Marked a b) (k : Marked b c) : Marked a c := fun i cs t fz hi hf => k i cs t fz (h i cs t fz hi hf) hf
theorem marked_below {w w' : World} (h : Below w.heap.size w w') : Marked w w' := fun _ _ _ _ hk _ => (h.block _ (Array.getElem?_eq_some_iff.1 hk).1).trans hk
theorem marked_grown {w w' : World} {b : Nat} {cb : Array Value} {tb : TypeId} (hg : w.grownBy w' (some b)) (hb : w.heap[b]? = some (.cells cb tb (0, 0))) : Marked w w' := fun k cs t fz hk hf => by
  have hkb : k ≠ b := by
    rintro rfl
    rw [hb] at hk
    injection hk with hk
    injection hk with _ _ hk
    exact hf hk.symm
  exact (hg.block k (Array.getElem?_eq_some_iff.1 hk).1 (by simpa using hkb)).trans hk
theorem marked_setRow {a w : World} {g : Nat} {cur : Array Value} {t : TypeId} (h : Marked a w) (hg : w.heap[g]? = some (.cells cur t (0, 0))) (arr : Array Value) : Marked a (w.setRow g arr) := fun k cs t' fz hk hf => by
  have h1 := h k cs t' fz hk hf
  have hkg : k ≠ g := by
    rintro rfl
    rw [hg] at h1
    injection h1 with h1
    injection h1 with _ _ h1
    exact hf h1.symm
  simp only [World.setRow]
  rw [Array.getElem?_modify]
  rw [if_neg (fun e => hkg e.symm)]
  exact h1

set_option maxHeartbeats 8000000 in
set_option maxRecDepth 100000 in
/-- (*bytes.Buffer).Write. -/
theorem bufPut_calls (B b : Nat) (xs : List UInt8) (g0 o n c : Nat) (ys : List UInt8) (w : World) (h : Buf B b xs w) (hr : RdB w (some ⟨g0, o, none⟩) n c ys) (hg0 : g0 ≠ b) (hBw : B ≤ w.heap.size) (hlim : xs.length + n ≤ 140737488355328) :
    Calls Tryd.prog 98 #[.pointer (some ⟨b, 0, none⟩), .slice (some ⟨g0, o, none⟩) n c] w fun e w' => e = .returned (.tuple #[.int .i64 n, .nilIface]) ∧ Buf B b (xs ++ ys) w' ∧ Below B w w' ∧ Marked w w' ∧ Beside b w w' := by
  have hyl := hr.len
  obtain ⟨hB, v0, lr, hbk, -, -⟩ := id h
  have c2 : w.cell? ⟨b, 2, none⟩ = some (.int .i8 lr) := by rw [Lib.cell_of_heap hbk]; rfl
  have f2 : w.frozen? ⟨b, 2, none⟩ = false := Lib.frozen_of_heap hbk 2
  have h' := h.setLast 0
  have hbel0 : Below B w (w.setCell ⟨b, 2, none⟩ (.int .i8 0)) := (Below.refl B w).setCell (p := ⟨b, 2, none⟩) hB _
  have hgr0 : w.grownBy (w.setCell ⟨b, 2, none⟩ (.int .i8 0)) (some b) := Lib.grownBy_setCell w b 2 _
  have hk0 : Beside b w (w.setCell ⟨b, 2, none⟩ (.int .i8 0)) := (Lib.OthersKept.refl _ _ w).setCell ⟨b, 2, none⟩ rfl _
  have hBw' : B ≤ (w.setCell ⟨b, 2, none⟩ (.int .i8 0)).heap.size := by simpa [World.setCell] using hBw
  have hinfo : (Tryd.prog.info? 5).map (·.size) = some 1 := by
    obtain ⟨i0, hi, -, hz1, -⟩ := info_parts info_u8
    rw [hi]; simp [hz1]
  have hxl : (Lib.byteCells xs).length = xs.length := Lib.byteCells_length xs
  have hT := Kp.mk (fun W h => Tryd.Buffer_tryGrow_own B b n (Lib.byteCells xs) W h)
  have hG := Kp.mk (fun W h hnr hBw => Tryd.Buffer_grow_own B b n (Lib.byteCells xs) W h hnr hBw (byteCells_one _) (by rw [hxl]; exact hlim))
  -- what the copy leaves
  have FIN : Kp (∀ W1 (zs : List Value), zs.length = n → 0 < n → Lib.IsBuffer 81 5 B b (Lib.byteCells xs ++ zs) W1 → Below B w W1 → w.grownBy W1 (some b) → Beside b w W1 →
      ∃ g cap cur lr2, W1.heap[b]? = some (.cells #[.slice (some ⟨g, 0, none⟩) (xs.length + n) cap, .int .i64 0, .int .i8 lr2] 81 (0, 0)) ∧ xs.length + n ≤ cap ∧ cap ≤ 9223372036854775807 ∧
        (∃ W2, (Builtin.copy_ #[62, 62] 3 #[.slice (some ⟨g, xs.length, none⟩) n (cap - xs.length), .slice (some ⟨g0, o, none⟩) n c]).run Tryd.prog W1 = .ok (goInt n) W2 ∧ Buf B b (xs ++ ys) W2 ∧ Below B w W2 ∧ Marked w W2 ∧ Beside b w W2) ∧ W1.heap[g]? = some (.cells cur 5 (0, 0))) := ⟨fun W1 zs hzl h0 hI hbel hgr hbs => by
    obtain ⟨-, lr2, hc⟩ := hI.cases
    rcases hc with ⟨hnil, -⟩ | ⟨g, cap, cur, hbk2, hBg, hg, hnc, hcm, hcs, htk, hgb⟩
    · exact absurd (congrArg List.length hnil) (by rw [List.length_append, hzl, List.length_nil]; omega)
    · rw [List.length_append, hzl, hxl] at hbk2 hnc htk
      have hsrc1 : ∀ j v, (Lib.byteCells ys)[j]? = some v → W1.cell? ((⟨g0, o, none⟩ : Addr).add j) = some v := fun j v hj => hgr.cell (rd_src hr h0 j v hj) (by rw [Lib.block_add]; exact fun e => hg0 (Option.some.inj e))
      have hcp := run_copy_row (P := Tryd.prog) W1 62 62 3 5 g xs.length n (cap - xs.length) ⟨g0, o, none⟩ n c cur 5 (Lib.byteCells ys) Tryd.underlying62 hinfo hg (by rw [Lib.byteCells_length, hyl]; exact (Nat.min_self n).symm) hsrc1 (by rw [Lib.byteCells_length, hyl]; omega) (byteCells_one _)
      rw [Lib.byteCells_length, hyl] at hcp
      obtain ⟨r1, r2⟩ := Lib.written_end (news := Lib.byteCells ys) (l := xs.length) hB (by rw [Lib.byteCells_length, hyl]; exact hbk2) hBg hg hcm hcs hgb (by rw [Lib.byteCells_length, hyl]; exact hnc)
      have e1 : cur.toList.take xs.length = Lib.byteCells xs := by
        have h3 := congrArg (List.take xs.length) htk
        rwa [List.take_take, Nat.min_eq_left (Nat.le_add_right _ _), List.take_left' hxl] at h3
      rw [e1, Lib.byteCells_length, hyl] at r1 r2
      refine ⟨g, cap, cur, lr2, hbk2, hnc, hcm, ⟨_, hcp, ?_, ?_, ?_, ?_⟩, hg⟩
      · rw [e1]
        unfold Buf
        rw [show Lib.byteCells (xs ++ ys) = Lib.byteCells xs ++ Lib.byteCells ys by simp [Lib.byteCells]]
        exact r1
      · rw [e1]; exact hbel.trans r2
      · exact marked_setRow (marked_grown hgr hbk) hg _
      · exact Lib.OthersKept.setRow hbs hg _⟩
  by_cases hs0 : n = 0
  · subst hs0
    have hys : ys = [] := List.eq_nil_of_length_eq_zero hyl
    subst hys
    simp only [List.append_nil]
    have hce : ∀ d dLen dCap W, (Builtin.copy_ #[62, 62] 3 #[.slice d dLen dCap, .slice (some ⟨g0, o, none⟩) 0 c]).run Tryd.prog W = .ok (goInt 0) W := fun d dLen dCap W => run_copy_none W 62 62 3 5 d (some ⟨g0, o, none⟩) dLen dCap 0 c Tryd.underlying62 hinfo (by simp)
    have KH := Kp.mk (And.intro hbel0 (And.intro hgr0 (And.intro hbk hk0)))
    have KI := Kp.mk h'
    clear h hr h' hbel0 hgr0 hbk hG FIN hBw hBw' hyl hk0
    go_enter Tryd.func98, Tryd.ntmps98
    go_wp2_with fail
    refine (hT.out _ KI.out).mono ?_
    rintro e W1 (⟨rfl, zs, hzl, hI, hbel, hk, hg⟩ | ⟨rfl, rfl, hnr⟩)
    · obtain rfl : zs = [] := List.eq_nil_of_length_eq_zero hzl
      rw [List.append_nil] at hI
      have KE : Kp (Buf B b xs W1 ∧ Below B w W1 ∧ Marked w W1 ∧ Beside b w W1) := ⟨hI, KH.out.1.trans hbel, marked_grown (Lib.grownBy_trans KH.out.2.1 hg) KH.out.2.2.1, Lib.OthersKept.trans KH.out.2.2.2 hk⟩
      obtain ⟨-, lr2, hc⟩ := hI.cases
      rcases hc with ⟨hb0, hbk2⟩ | ⟨g, cap, cur, hbk2, -, -, hnc, hcm, -, -, -⟩
      · have d0 : W1.cell? ⟨b, 0, none⟩ = some (.slice none 0 0) := by rw [Lib.cell_of_heap hbk2]; rfl
        have hz : (Lib.byteCells xs).length = 0 := by rw [hb0]; rfl
        rw [hz]
        clear c2 f2 hbk2 hI hbel hk hg hb0 hT
        go_wp2
        all_goals (go_ret2; first | exact ⟨rfl, KE.out⟩ | exact ⟨by simp, KE.out⟩)
      · rw [hxl] at hbk2 hnc ⊢
        have d0 : W1.cell? ⟨b, 0, none⟩ = some (.slice (some ⟨g, 0, none⟩) xs.length cap) := by rw [Lib.cell_of_heap hbk2]; rfl
        unfold maxLen at hcm
        clear c2 f2 hbk2 hI hbel hk hg hT
        go_wp2
        all_goals (go_ret2; first | exact ⟨rfl, KE.out⟩ | exact ⟨by simp, KE.out⟩)
    · obtain ⟨_, _, _, _, hlt⟩ := hnr
      omega
  · have KH := Kp.mk (And.intro hbel0 (And.intro hgr0 (And.intro hBw' hk0)))
    have KI := Kp.mk h'
    clear h hr h' hbel0 hgr0 hbk hBw hBw' hyl hk0
    go_enter Tryd.func98, Tryd.ntmps98
    go_wp2_with fail
    refine (hT.out _ KI.out).mono ?_
    rintro e W1 (⟨rfl, zs, hzl, hI, hbel, hk, hg⟩ | ⟨rfl, rfl, hnr⟩)
    · obtain ⟨g, cap, cur, lr2, hbk2, hnc, hcm, ⟨W2, hcp, hE⟩, hgg⟩ := FIN.out W1 zs hzl (by omega) hI (KH.out.1.trans hbel) (Lib.grownBy_trans KH.out.2.1 hg) (Lib.OthersKept.trans KH.out.2.2.2 hk)
      have d0 : W1.cell? ⟨b, 0, none⟩ = some (.slice (some ⟨g, 0, none⟩) (xs.length + n) cap) := by rw [Lib.cell_of_heap hbk2]; rfl
      have hne : ¬ cap = xs.length := by omega
      have KE := Kp.mk hE
      rw [hxl]
      clear c2 f2 hbk2 hI hbel hk hg hT hE hG FIN hzl
      go_wp2
      go_ret2
      exact ⟨rfl, KE.out⟩
    · go_wp2_with fail
      refine (hG.out _ KI.out hnr KH.out.2.2.1).mono ?_
      rintro e W1 ⟨rfl, zs, hzl, hI, hbel, hk, hg⟩
      obtain ⟨g, cap, cur, lr2, hbk2, hnc, hcm, ⟨W2, hcp, hE⟩, hgg⟩ := FIN.out W1 zs hzl (by omega) hI (KH.out.1.trans hbel) (Lib.grownBy_trans KH.out.2.1 hg) (Lib.OthersKept.trans KH.out.2.2.2 hk)
      have d0 : W1.cell? ⟨b, 0, none⟩ = some (.slice (some ⟨g, 0, none⟩) (xs.length + n) cap) := by rw [Lib.cell_of_heap hbk2]; rfl
      have hne : ¬ cap = xs.length := by omega
      have KE := Kp.mk hE
      rw [hxl]
      clear c2 f2 hbk2 hI hbel hk hg hT hE hG FIN hzl hnr
      go_wp2
      go_ret2
      exact ⟨rfl, KE.out⟩

end Go.Proofs.YtdppnlomhlnbkaaDoor
