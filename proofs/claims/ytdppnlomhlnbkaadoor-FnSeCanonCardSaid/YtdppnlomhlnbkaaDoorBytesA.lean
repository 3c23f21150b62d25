/- Some texts in one: BufPut, BytesOf, LdWrite. -/
import Derived.Test.YtdppnlomhlnbkaaDoorPutArr
import Derived.OwnWalk
import Derived.Lib.BufferKept
import Derived.Lib.BufferWrite
import Derived.Lib.BufferSrc
import Derived.Laws.IdiomCopy
import Derived.Lib.ConvBytes
import Derived.Test.YtdppnlomhlnbkaaDoorMhEnc
import Derived.Test.YtdppnlomhlnbkaaDoorGrowA
import Derived.Handy
namespace Go.Proofs.YtdppnlomhlnbkaaDoor
open Go.RowKit

/-- The rows that bear a mark stand as they stood. -/
def Marked (w w' : World) : Prop := ∀ (k : Nat) (cs : Array Value) (t : TypeId) (fz : Nat × Nat), w.heap[k]? = some (.cells cs t fz) → fz ≠ (0, 0) → w'.heap[k]? = some (.cells cs t fz)
theorem Marked.refl (w : World) : Marked w w := fun _ _ _ _ h _ => h
theorem Marked.trans {a b c : World} (h : Marked a b) (k : Marked b c) : Marked a c := fun i cs t fz hi hf => k i cs t fz (h i cs t fz hi hf) hf
theorem marked_below {w w' : World} (h : Below w.heap.size w w') : Marked w w' := fun _ _ _ _ hk _ => (h.block _ (Array.getElem?_eq_some_iff.1 hk).1).trans hk
theorem marked_grown {w w' : World} {b : Nat} {cb : Array Value} {tb : TypeId} (hg : w.grownBy w' (some b)) (hb : w.heap[b]? = some (.cells cb tb (0, 0))) : Marked w w' := fun k cs t fz hk hf => by
  have hkb : k ≠ b := by
    rintro rfl
    rw [hb] at hk
    injection hk with hk
    injection hk with _ _ hk
    exact hf hk.symm
  exact (hg.block k (Array.getElem?_eq_some_iff.1 hk).1 (by simpa using hkb)).trans hk
theorem marked_setRow {a w : World} {g : Nat} {cur : Array Value} {t : TypeId} (h : Marked a w) (hg : w.heap[g]? = some (.cells cur t (0, 0))) (arr : Array Value) : Marked a (w.setRow g arr) := fun k cs t' fz hk hf => by
  have h1 := h k cs t' fz hk hf
  have hkg : k ≠ g := by
    rintro rfl
    rw [hg] at h1
    injection h1 with h1
    injection h1 with _ _ h1
    exact hf h1.symm
  simp only [World.setRow]
  rw [Array.getElem?_modify]
  rw [if_neg (fun e => hkg e.symm)]
  exact h1

set_option maxHeartbeats 8000000 in
set_option maxRecDepth 100000 in
/-- (*bytes.Buffer).Write. -/
theorem bufPut_calls (B b : Nat) (xs : List UInt8) (g0 o n c : Nat) (ys : List UInt8) (w : World) (h : Buf B b xs w) (hr : RdB w (some ⟨g0, o, none⟩) n c ys) (hg0 : g0 ≠ b) (hBw : B ≤ w.heap.size) (hlim : xs.length + n ≤ 140737488355328) :
    Calls Tryd.prog 98 #[.pointer (some ⟨b, 0, none⟩), .slice (some ⟨g0, o, none⟩) n c] w fun e w' => e = .returned (.tuple #[.int .i64 n, .nilIface]) ∧ Buf B b (xs ++ ys) w' ∧ Below B w w' ∧ Marked w w' ∧ Beside b w w' := by
  have hyl := hr.len
  obtain ⟨hB, v0, lr, hbk, -, -⟩ := id h
  have c2 : w.cell? ⟨b, 2, none⟩ = some (.int .i8 lr) := by rw [Lib.cell_of_heap hbk]; rfl
  have f2 : w.frozen? ⟨b, 2, none⟩ = false := Lib.frozen_of_heap hbk 2
  have h' := h.setLast 0
  have hbel0 : Below B w (w.setCell ⟨b, 2, none⟩ (.int .i8 0)) := (Below.refl B w).setCell (p := ⟨b, 2, none⟩) hB _
  have hgr0 : w.grownBy (w.setCell ⟨b, 2, none⟩ (.int .i8 0)) (some b) := Lib.grownBy_setCell w b 2 _
  have hk0 : Beside b w (w.setCell ⟨b, 2, none⟩ (.int .i8 0)) := (Lib.OthersKept.refl _ _ w).setCell ⟨b, 2, none⟩ rfl _
  have hBw' : B ≤ (w.setCell ⟨b, 2, none⟩ (.int .i8 0)).heap.size := by simpa [World.setCell] using hBw
  have hinfo : (Tryd.prog.info? 5).map (·.size) = some 1 := by
    obtain ⟨i0, hi, -, hz1, -⟩ := info_parts info_u8
    rw [hi]; simp [hz1]
  have hxl : (Lib.byteCells xs).length = xs.length := Lib.byteCells_length xs
  have hT := Kp.mk (fun W h => Tryd.Buffer_tryGrow_own B b n (Lib.byteCells xs) W h)
  have hG := Kp.mk (fun W h hnr hBw => Tryd.Buffer_grow_own B b n (Lib.byteCells xs) W h hnr hBw (byteCells_one _) (by rw [hxl]; exact hlim))
  -- what the copy leaves
  have FIN : Kp (∀ W1 (zs : List Value), zs.length = n → 0 < n → Lib.IsBuffer 81 5 B b (Lib.byteCells xs ++ zs) W1 → Below B w W1 → w.grownBy W1 (some b) → Beside b w W1 →
      ∃ g cap cur lr2, W1.heap[b]? = some (.cells #[.slice (some ⟨g, 0, none⟩) (xs.length + n) cap, .int .i64 0, .int .i8 lr2] 81 (0, 0)) ∧ xs.length + n ≤ cap ∧ cap ≤ 9223372036854775807 ∧
        (∃ W2, (Builtin.copy_ #[62, 62] 3 #[.slice (some ⟨g, xs.length, none⟩) n (cap - xs.length), .slice (some ⟨g0, o, none⟩) n c]).run Tryd.prog W1 = .ok (goInt n) W2 ∧ Buf B b (xs ++ ys) W2 ∧ Below B w W2 ∧ Marked w W2 ∧ Beside b w W2) ∧ W1.heap[g]? = some (.cells cur 5 (0, 0))) := ⟨fun W1 zs hzl h0 hI hbel hgr hbs => by
    obtain ⟨-, lr2, hc⟩ := hI.cases
    rcases hc with ⟨hnil, -⟩ | ⟨g, cap, cur, hbk2, hBg, hg, hnc, hcm, hcs, htk, hgb⟩
    · exact absurd (congrArg List.length hnil) (by rw [List.length_append, hzl, List.length_nil]; omega)
    · rw [List.length_append, hzl, hxl] at hbk2 hnc htk
      have hsrc1 : ∀ j v, (Lib.byteCells ys)[j]? = some v → W1.cell? ((⟨g0, o, none⟩ : Addr).add j) = some v := fun j v hj => hgr.cell (rd_src hr h0 j v hj) (by rw [Lib.block_add]; exact fun e => hg0 (Option.some.inj e))
      have hcp := run_copy_row (P := Tryd.prog) W1 62 62 3 5 g xs.length n (cap - xs.length) ⟨g0, o, none⟩ n c cur 5 (Lib.byteCells ys) Tryd.underlying62 hinfo hg (by rw [Lib.byteCells_length, hyl]; exact (Nat.min_self n).symm) hsrc1 (by rw [Lib.byteCells_length, hyl]; omega) (byteCells_one _)
      rw [Lib.byteCells_length, hyl] at hcp
      obtain ⟨r1, r2⟩ := Lib.written_end (news := Lib.byteCells ys) (l := xs.length) hB (by rw [Lib.byteCells_length, hyl]; exact hbk2) hBg hg hcm hcs hgb (by rw [Lib.byteCells_length, hyl]; exact hnc)
      have e1 : cur.toList.take xs.length = Lib.byteCells xs := by
        have h3 := congrArg (List.take xs.length) htk
        rwa [List.take_take, Nat.min_eq_left (Nat.le_add_right _ _), List.take_left' hxl] at h3
      rw [e1, Lib.byteCells_length, hyl] at r1 r2
      refine ⟨g, cap, cur, lr2, hbk2, hnc, hcm, ⟨_, hcp, ?_, ?_, ?_, ?_⟩, hg⟩
      · rw [e1]
        unfold Buf
        rw [show Lib.byteCells (xs ++ ys) = Lib.byteCells xs ++ Lib.byteCells ys by simp [Lib.byteCells]]
        exact r1
      · rw [e1]; exact hbel.trans r2
      · exact marked_setRow (marked_grown hgr hbk) hg _
      · exact Lib.OthersKept.setRow hbs hg _⟩
  by_cases hs0 : n = 0
  · subst hs0
    have hys : ys = [] := List.eq_nil_of_length_eq_zero hyl
    subst hys
    simp only [List.append_nil]
    have hce : ∀ d dLen dCap W, (Builtin.copy_ #[62, 62] 3 #[.slice d dLen dCap, .slice (some ⟨g0, o, none⟩) 0 c]).run Tryd.prog W = .ok (goInt 0) W := fun d dLen dCap W => run_copy_none W 62 62 3 5 d (some ⟨g0, o, none⟩) dLen dCap 0 c Tryd.underlying62 hinfo (by simp)
    have KH := Kp.mk (And.intro hbel0 (And.intro hgr0 (And.intro hbk hk0)))
    have KI := Kp.mk h'
    clear h hr h' hbel0 hgr0 hbk hG FIN hBw hBw' hyl hk0
    go_enter Tryd.func98, Tryd.ntmps98
    go_wp2_with fail
    refine (hT.out _ KI.out).mono ?_
    rintro e W1 (⟨rfl, zs, hzl, hI, hbel, hk, hg⟩ | ⟨rfl, rfl, hnr⟩)
    · obtain rfl : zs = [] := List.eq_nil_of_length_eq_zero hzl
      rw [List.append_nil] at hI
      have KE : Kp (Buf B b xs W1 ∧ Below B w W1 ∧ Marked w W1 ∧ Beside b w W1) := ⟨hI, KH.out.1.trans hbel, marked_grown (Lib.grownBy_trans KH.out.2.1 hg) KH.out.2.2.1, Lib.OthersKept.trans KH.out.2.2.2 hk⟩
      obtain ⟨-, lr2, hc⟩ := hI.cases
      rcases hc with ⟨hb0, hbk2⟩ | ⟨g, cap, cur, hbk2, -, -, hnc, hcm, -, -, -⟩
      · have d0 : W1.cell? ⟨b, 0, none⟩ = some (.slice none 0 0) := by rw [Lib.cell_of_heap hbk2]; rfl
        have hz : (Lib.byteCells xs).length = 0 := by rw [hb0]; rfl
        rw [hz]
        clear c2 f2 hbk2 hI hbel hk hg hb0 hT
        go_wp2
        all_goals (go_ret2; first | exact ⟨rfl, KE.out⟩ | exact ⟨by simp, KE.out⟩)
      · rw [hxl] at hbk2 hnc ⊢
        have d0 : W1.cell? ⟨b, 0, none⟩ = some (.slice (some ⟨g, 0, none⟩) xs.length cap) := by rw [Lib.cell_of_heap hbk2]; rfl
        unfold maxLen at hcm
        clear c2 f2 hbk2 hI hbel hk hg hT
        go_wp2
        all_goals (go_ret2; first | exact ⟨rfl, KE.out⟩ | exact ⟨by simp, KE.out⟩)
    · obtain ⟨_, _, _, _, hlt⟩ := hnr
      omega
  · have KH := Kp.mk (And.intro hbel0 (And.intro hgr0 (And.intro hBw' hk0)))
    have KI := Kp.mk h'
    clear h hr h' hbel0 hgr0 hbk hBw hBw' hyl hk0
    go_enter Tryd.func98, Tryd.ntmps98
    go_wp2_with fail
    refine (hT.out _ KI.out).mono ?_
    rintro e W1 (⟨rfl, zs, hzl, hI, hbel, hk, hg⟩ | ⟨rfl, rfl, hnr⟩)
    · obtain ⟨g, cap, cur, lr2, hbk2, hnc, hcm, ⟨W2, hcp, hE⟩, hgg⟩ := FIN.out W1 zs hzl (by omega) hI (KH.out.1.trans hbel) (Lib.grownBy_trans KH.out.2.1 hg) (Lib.OthersKept.trans KH.out.2.2.2 hk)
      have d0 : W1.cell? ⟨b, 0, none⟩ = some (.slice (some ⟨g, 0, none⟩) (xs.length + n) cap) := by rw [Lib.cell_of_heap hbk2]; rfl
      have hne : ¬ cap = xs.length := by omega
      have KE := Kp.mk hE
      rw [hxl]
      clear c2 f2 hbk2 hI hbel hk hg hT hE hG FIN hzl
      go_wp2
      go_ret2
      exact ⟨rfl, KE.out⟩
    · go_wp2_with fail
      refine (hG.out _ KI.out hnr KH.out.2.2.1).mono ?_
      rintro e W1 ⟨rfl, zs, hzl, hI, hbel, hk, hg⟩
      obtain ⟨g, cap, cur, lr2, hbk2, hnc, hcm, ⟨W2, hcp, hE⟩, hgg⟩ := FIN.out W1 zs hzl (by omega) hI (KH.out.1.trans hbel) (Lib.grownBy_trans KH.out.2.1 hg) (Lib.OthersKept.trans KH.out.2.2.2 hk)
      have d0 : W1.cell? ⟨b, 0, none⟩ = some (.slice (some ⟨g, 0, none⟩) (xs.length + n) cap) := by rw [Lib.cell_of_heap hbk2]; rfl
      have hne : ¬ cap = xs.length := by omega
      have KE := Kp.mk hE
      rw [hxl]
      clear c2 f2 hbk2 hI hbel hk hg hT hE hG FIN hzl hnr
      go_wp2
      go_ret2
      exact ⟨rfl, KE.out⟩

end Go.Proofs.YtdppnlomhlnbkaaDoor
namespace Go.Proofs.YtdppnlomhlnbkaaDoor
open Go.RowKit

theorem ownsRow_below {w w' : World} {B : Nat} {e : TypeId} {v : Value} {n : Nat} {xs : List Value} (h : w.ownsRow B e 1 v n xs) (hb : Below w.heap.size w w') : w'.ownsRow B e 1 v n xs := by
  refine ⟨h.1, ?_⟩
  rcases h.2 with ho | ⟨g, cap, cur, rfl, hg, hgg, rest⟩
  · exact .inl ho
  · exact .inr ⟨g, cap, cur, rfl, hg, blk_keep hgg hb, rest⟩
theorem marked_grownRow {w w' : World} {B : Nat} {e : TypeId} {v : Value} {n : Nat} {xs : List Value} (h : w.ownsRow B e 1 v n xs) (hg : w.grownBy w' v.ownBlock) : Marked w w' := by
  rcases h.2 with ⟨rfl, _⟩ | ⟨g, cap, cur, rfl, hB, hgg, rest⟩
  · exact fun k cs t fz hk _ => (hg.block k (Array.getElem?_eq_some_iff.1 hk).1 (by simp [Value.ownBlock])).trans hk
  · exact marked_grown hg hgg

/-- The bytes of a string that has been converted. -/
def PartV (v : Value) (bs : List UInt8) (w : World) : Prop := ∃ (h cap : Nat) (cs : Array Value) (fz : Nat × Nat), v = .slice (some ⟨h, 0, none⟩) bs.length cap ∧ w.heap[h]? = some (.cells cs 5 fz) ∧ fz ≠ (0, 0) ∧ RdB w (some ⟨h, 0, none⟩) bs.length cap bs
theorem PartV.marked {v : Value} {bs : List UInt8} {w w' : World} (h : PartV v bs w) (hm : Marked w w') : PartV v bs w' := by
  obtain ⟨h, cap, cs, fz, rfl, h1, h2, h3⟩ := h
  have h4 := hm h cs _ fz h1 h2
  refine ⟨h, cap, cs, fz, rfl, h4, h2, h3.len, h3.cap, h3.most, fun h0 => ?_⟩
  obtain ⟨g, o, e, hc⟩ := h3.lies h0
  have e' := Option.some.inj e
  simp only [Addr.mk.injEq] at e'
  obtain ⟨rfl, rfl, _⟩ := e'
  exact ⟨_, _, rfl, fun i hi => (World.cell?_of_block (a := ⟨h, 0 + i, none⟩) (h4.trans h1.symm)).trans (hc i hi)⟩
theorem partV_new (w : World) (s : ByteArray) (hs : s.size < 2 ^ 63) : PartV (.slice (some ⟨w.heap.size, 0, none⟩) s.size (grownCap w s.size 0 5)) (bl s) (Lib.bytesWorld w 5 s) := by
  have h := rd_bytes w 5 s hs
  have hl := bl_length s
  refine ⟨w.heap.size, _, _, _, by rw [hl], Lib.bytesWorld_at_new w _ s, ?_, ?_⟩
  · intro e; have := congrArg Prod.snd e; simp at this
  · rw [hl]; exact h

/-- What is known of a row of parts. -/
def PartsIn (w : World) (B : Nat) (v : Value) (xs : List Value) (ss : List ByteArray) (k : Nat) : Prop :=
  w.ownsRow B 62 1 v k xs ∧ ∀ j, j < k → ∃ s x, ss[j]? = some s ∧ xs[j]? = some x ∧ PartV x (bl s) w

set_option maxHeartbeats 8000000 in
set_option maxRecDepth 100000 in
/-- impl.bytesOf. -/
theorem bytesOf_calls (g c : Nat) (ss : List ByteArray) (t : TypeId) (cs : Array Value) (w : World) (hg : w.heap[g]? = some (.cells cs t (0, 0))) (hcs : ∀ (j : Nat) (s : ByteArray), ss[j]? = some s → cs[j]? = some (Value.string s)) (hN : ss.length ≤ 1000) (hsz : ∀ s ∈ ss, s.size ≤ 2147483647) :
    Calls Tryd.prog 38 #[.slice (some ⟨g, 0, none⟩) ss.length c] w fun e w' => (∃ v xs, e = .returned v ∧ PartsIn w' w.heap.size v xs ss ss.length) ∧ Below w.heap.size w w' ∧ Marked w w' := by
  obtain ⟨i0, hi, hz0, hz1, hz2⟩ := info_parts (show (Tryd.prog.info? 62).map (fun i => (i.zero, i.size, i.bytes)) = some (some (.slice none 0 0), 1, 24) by kernel_rfl)
  have HI := Kp.mk (And.intro hi (And.intro hz0 (And.intro hz1 hz2)))
  have HG := Kp.mk (And.intro hg hcs)
  have hgl : g < w.heap.size := (Array.getElem?_eq_some_iff.1 hg).1
  have HS := Kp.mk hsz
  have HGL := Kp.mk hgl
  obtain ⟨N, hNe⟩ : ∃ N, N = ss.length := ⟨_, rfl⟩
  rw [← hNe] at hN ⊢
  have HNe := Kp.mk hNe
  clear hi hz0 hz1 hz2 hg hcs hsz hgl hNe
  go_enter Tryd.func38, Tryd.ntmps38
  go_wp2
  go_loopw [3, 8] (fun vo vk wr => ∃ (k : Nat) (xs : List Value), k ≤ N ∧ vk = .int .i64 k ∧ Kp (PartsIn wr w.heap.size vo xs ss k ∧ Below w.heap.size w wr ∧ Marked w wr))
    (fun _ vk _ => N - (intOf vk).toNat)
  case atStart => exact ⟨0, [], by omega, rfl, ⟨⟨World.ownsRow_nil _ _ _ _, fun j hj => by omega⟩, Below.refl _ _, Marked.refl _⟩⟩
  case round =>
    obtain ⟨k, xs, hkN, rfl, hK⟩ := hrel
    by_cases hk : k < N
    · obtain ⟨s, hs⟩ : ∃ s, ss[k]? = some s := ⟨_, List.getElem?_eq_getElem (by have := HNe.out; omega)⟩
      have hsz := HS.out s (List.mem_of_getElem? hs)
      have hkb := fun W => Lib.run_convert_string_bytes (P := Tryd.prog) W 9 62 5 s Tryd.underlying9 Tryd.underlying62 Tryd.underlying5
      have KS := Kp.mk (And.intro hs hsz)
      have hcell : wr.cell? ⟨g, k, none⟩ = some (.string s) := by
        have h1 := cell_bel hK.out.2.1 (by rw [blk_cell HG.out.1 k]; exact HG.out.2 k s hs : w.cell? ⟨g, k, none⟩ = some (.string s))
        exact h1
      have hb1 : Below wr.heap.size wr (Lib.bytesWorld wr 5 s) := bel_bytes (Below.refl _ _) _ _
      have hpv := partV_new wr s (by omega)
      have hsz1 : (Lib.bytesWorld wr 5 s).heap.size = wr.heap.size + 1 := by rw [Lib.bytesWorld_size]
      generalize hgc : grownCap wr s.size 0 5 = gc at *
      have hb2 := bel_then hb1 (bel_alloc (Below.refl (Lib.bytesWorld wr 5 s).heap.size _) (.cells #[.slice (some ⟨wr.heap.size, 0, none⟩) s.size gc] 62))
      have hown := ownsRow_below hK.out.1.1 hb2
      have hbase : w.heap.size ≤ ((Lib.bytesWorld wr 5 s).alloc (.cells #[.slice (some ⟨wr.heap.size, 0, none⟩) s.size gc] 62)).heap.size := by have := hK.out.2.1.size; have := hb2.size; omega
      have KA := Kp.mk (And.intro hb2 (And.intro hown (And.intro hbase (And.intro hpv hb1))))
      clear hsz hb1 hpv hb2 hown hbase
      go_wp2_with (at_builtin; refine wpList_append_own _ rfl _ _ 84 rfl w.heap.size 62 i0 (.slice none 0 0) 1 24 Tryd.underlying84 HI.out.1 HI.out.2.1 HI.out.2.2.1 HI.out.2.2.2 rfl (by decide) _ _ _ rfl KA.out.2.1 ⟨wr.heap.size + 1, 0, none⟩ 1 1 [.slice (some ⟨wr.heap.size, 0, none⟩) s.size gc] rfl rfl ?c1 ?c2 ?c3 ?c4 KA.out.2.2.1 ?_)
      case c1 =>
        intro j u hj
        match j, hj with
        | 0, hj =>
          simp at hj; subst hj
          rw [← hsz1]
          simp [World.cell?, World.alloc, -World.alloc_eq, Addr.add]
      case c2 => intro u hu; simp at hu; subst hu; rfl
      case c3 => unfold maxLen; omega
      case c4 => omega
      intro v' w2 hown' hgrow _
      have hm1 : Marked wr w2 := (marked_below KA.out.1).trans (marked_grownRow KA.out.2.1 hgrow)
      have hm2 : Marked (Lib.bytesWorld wr 5 s) w2 := (marked_below (bel_alloc (Below.refl _ _) _)).trans (marked_grownRow KA.out.2.1 hgrow)
      have hxl : xs.length = k := by have := hK.out.1.1.1; omega
      have KE : Kp (PartsIn w2 w.heap.size v' (xs ++ [.slice (some ⟨wr.heap.size, 0, none⟩) s.size gc]) ss (k + 1) ∧ Below w.heap.size w w2 ∧ Marked w w2) := ⟨⟨hown', fun j hj => by
          by_cases hjk : j < k
          · obtain ⟨s', x, h1, h2, h3⟩ := hK.out.1.2 j hjk
            exact ⟨s', x, h1, by rw [List.getElem?_append_left (by omega)]; exact h2, h3.marked hm1⟩
          · obtain rfl : j = k := by omega
            exact ⟨s, _, KS.out.1, by rw [List.getElem?_append_right (by omega), hxl, Nat.sub_self]; rfl, KA.out.2.2.2.1.marked hm2⟩⟩,
        (hK.out.2.1.trans (KA.out.1.mono hK.out.2.1.size)).grown hgrow KA.out.2.2.1 (fun q hq => (KA.out.2.1.lt q hq).1), hK.out.2.2.trans hm1⟩
      clear hown' hgrow hm1 hm2 hxl hcell hgc hsz1 hkb
      go_wp2
      go_roundw
      case rel => exact ⟨k + 1, _, by omega, by go_num, KE⟩
      case measure => simp only [intOf]; omega
    · have hkN' : k = N := by omega
      subst hkN'
      go_wp2
      go_ret
      exact ⟨⟨_, xs, rfl, hK.out.1⟩, hK.out.2⟩

end Go.Proofs.YtdppnlomhlnbkaaDoor
namespace Go.Proofs.YtdppnlomhlnbkaaDoor
open Go.RowKit

/-- How many bytes the first k strings have together. -/
def szSum (ss : List ByteArray) (k : Nat) : Nat := ((ss.take k).map ByteArray.size).sum
/-- The first k strings, one behind the other. -/
def joined (ss : List ByteArray) (k : Nat) : List UInt8 := (ss.take k).flatMap bl
theorem take_succ_of {ss : List ByteArray} {k : Nat} {s : ByteArray} (h : ss[k]? = some s) : ss.take (k + 1) = ss.take k ++ [s] := by
  obtain ⟨hl, rfl⟩ := List.getElem?_eq_some_iff.1 h
  exact (List.take_append_getElem hl).symm
theorem szSum_succ (ss : List ByteArray) (k : Nat) {s : ByteArray} (h : ss[k]? = some s) : szSum ss (k + 1) = szSum ss k + s.size := by
  simp [szSum, take_succ_of h]
theorem joined_succ (ss : List ByteArray) (k : Nat) {s : ByteArray} (h : ss[k]? = some s) : joined ss (k + 1) = joined ss k ++ bl s := by
  simp [joined, take_succ_of h]
theorem joined_len (ss : List ByteArray) (k : Nat) : (joined ss k).length = szSum ss k := by
  unfold joined szSum
  induction ss.take k with
  | nil => rfl
  | cons a r ih => simp [bl_length, ih]
theorem szSum_le (ss : List ByteArray) (h : ∀ s ∈ ss, s.size ≤ 2147483647) (k : Nat) : szSum ss k ≤ ss.length * 2147483647 := by
  have h2 : ∀ l : List ByteArray, (∀ s ∈ l, s.size ≤ 2147483647) → (l.map ByteArray.size).sum ≤ l.length * 2147483647 := fun l => by
    induction l with
    | nil => intro _; simp
    | cons a r ih =>
      intro hl
      have h3 := hl a (by simp)
      have h4 := ih (fun s hs => hl s (by simp [hs]))
      simp only [List.map_cons, List.sum_cons, List.length_cons, Nat.add_mul]
      omega
  refine Nat.le_trans (h2 _ (fun s hs => h s (List.mem_of_mem_take hs))) ?_
  exact Nat.mul_le_mul_right _ (by rw [List.length_take]; omega)

/-- What operations 0 to 6 of the writing region leave. -/
def lwR (b g n : Nat) (j : Nat) (v : Value) (_ : World) : Prop :=
  match j with
  | 0 => v = .iface 83 (.pointer (some ⟨b, 0, none⟩))
  | 1 => v = .slice (some ⟨g, 0, none⟩) 8 8
  | 2 => v = .int .i64 n
  | 3 => v = .slice (some ⟨g, 0, none⟩) n 8
  | 4 => v = .func (Fn.method "Write") #[.iface 83 (.pointer (some ⟨b, 0, none⟩))] #[]
  | 5 => v = .func (Fn.method "Write") #[.iface 83 (.pointer (some ⟨b, 0, none⟩))] #[]
  | 6 => v = .iface 83 (.pointer (some ⟨b, 0, none⟩))
  | _ => True
theorem cut_lo8 (g n : Nat) (hn : n ≤ 8) (W : World) :
    (Instr.slice 62 (.slice (some ⟨g, 0, none⟩) 8 8) none (some (.int .i64 (n : Int))) none).run Tryd.prog W = .ok (.slice (some ⟨g, 0, none⟩) n 8) W := by
  obtain ⟨i, hi, _, hs, _⟩ := info_parts info_u8
  have hel : Tryd.prog.elem 62 = 5 := by simp [Program.elem, Tryd.underlying62]
  have hu : Tryd.prog.underlying 62 = some (.slice (Tryd.prog.elem 62)) := by rw [hel]; exact Tryd.underlying62
  rw [run_slice_h W 62 _ 8 8 hu .i64 (n : Int) (by omega) (by omega), hel]
  simp [sizeOf, typeInfo, hi, hs, sliced, Result.andThen, add_plain]

set_option maxHeartbeats 16000000 in
set_option maxRecDepth 100000 in
/-- util.LdWrite of some parts to a bytes.Buffer. -/
theorem ldWrite_calls (B b : Nat) (v : Value) (xs : List Value) (ss : List ByteArray) (w : World) (hbf : Buf B b [] w) (hBw : B ≤ w.heap.size) (hp : PartsIn w B v xs ss ss.length) (hN : ss.length ≤ 1000) (h0 : 0 < ss.length) (hsz : ∀ s ∈ ss, s.size ≤ 2147483647) :
    Calls Tryd.prog 37 #[.iface 83 (.pointer (some ⟨b, 0, none⟩)), v] w fun e w' => e = .returned .nilIface ∧ Buf B b (Lib.uvarint (szSum ss ss.length) ++ joined ss ss.length) w' ∧ Below B w w' ∧ Marked w w' ∧ Beside b w w' := by
  have hmk : ∀ W : World, (Instr.makeSlice 62 (.int .i64 8) (.int .i64 8)).run Tryd.prog W = .ok (.slice (some ⟨W.heap.size, 0, none⟩) 8 8) (W.alloc (.cells (zeros 8) 5)) := fun W => mk_bytes 62 Tryd.underlying62 8 (by omega) W
  have htot := szSum_le ss hsz ss.length
  generalize hNe : ss.length = N at *
  have HNe := Kp.mk hNe
  obtain ⟨hxl, hcase⟩ := hp.1
  rcases hcase with ⟨_, h⟩ | ⟨g, cap, cur, rfl, hg, hgg, hgn, hgc, hgs, htk⟩
  · omega
  have hcur : ∀ j, j < N → cur[j]? = xs[j]? := fun j hj => by
    rw [← htk, List.getElem?_take, if_pos (by omega), Array.getElem?_toList]
  have hgb : g ≠ b := by
    rintro rfl
    obtain ⟨_, _, _, hbk, _⟩ := hbf
    rw [hbk] at hgg
    injection hgg with hgg
    injection hgg with _ hgg _
    exact absurd hgg (by decide)
  have HR := Kp.mk (And.intro hgg (And.intro hgb (And.intro hgn hcur)))
  have HP := Kp.mk hp
  have HB := Kp.mk hbf
  have hs64 : szSum ss N < 2 ^ 56 := by omega
  have HX := Kp.mk (And.intro hBw (And.intro hs64 (And.intro htot hsz)))
  have hul : (Lib.uvarint (szSum ss N)).length ≤ 8 := by
    rw [uvarint_len _ (by omega)]
    have hb := Lib.bitLen_le (szSum ss N) 56 (by omega) hs64
    unfold uvSize
    split <;> omega
  have hup : 0 < (Lib.uvarint (szSum ss N)).length := by rw [uvarint_len _ (by omega)]; exact uvSize_pos (by omega)
  have HL := Kp.mk hul
  have HU := Kp.mk hup
  have hcap63 : cap ≤ 9223372036854775807 := hgc
  clear hbf hBw hp hsz hgg hgb htk hcur hxl hs64 hul hup hNe hgs hg htot hgc
  go_enter Tryd.func37, Tryd.ntmps37
  go_wp2
  go_loop [5, 16] (fun vs vk => ∃ (k : Nat), k ≤ N ∧ vs = .int .u64 (szSum ss k) ∧ vk = .int .i64 k)
    (fun _ vk => N - (intOf vk).toNat)
  case atStart => exact ⟨0, by omega, rfl, rfl⟩
  case round =>
    obtain ⟨k, hkN, rfl, rfl⟩ := hrel
    by_cases hk : k < N
    · obtain ⟨s, x, hs, hx, hpv⟩ := HP.out.2 k hk
      obtain ⟨h, cap2, cs2, fz, rfl, _, _, _⟩ := hpv
      have hcell := blk_cell HR.out.1 k
      rw [HR.out.2.2.2 k hk, hx] at hcell
      have hsz := HX.out.2.2.2 s (List.mem_of_getElem? hs)
      have hml := szSum_le ss HX.out.2.2.2 k
      have hNN := HNe.out
      have hsb : szSum ss k ≤ 2147483647000 := by omega
      have hS := Kp.mk (szSum_succ ss k hs)
      rw [bl_length] at hcell
      clear hml hNN hs hx
      go_wp2
      go_round
      case rel => exact ⟨k + 1, by omega, by rw [hS.out]; go_num, by go_num⟩
      case measure => simp only [intOf]; omega
    · have hkN2 : N = k := by omega
      subst hkN2
      have hlt56 := HX.out.2.1
      have HPU := Kp.mk (putUv_calls w.heap.size 0 8 8 (szSum ss N) (by omega) (w.alloc (.cells (zeros 8) 5)) HL.out (fun j hj => new_cells w 8 _ j (by have := HL.out; omega)))
      clear hlt56
      go_wp2_with fail
      refine HPU.out.mono ?_
      rintro e w1 ⟨rfl, hw1⟩
      have hput := put_new w 8 (Lib.uvarint (szSum ss N)) 5 HL.out (by omega)
      rw [← hw1] at hput
      have hb1 : Below w.heap.size w w1 := by rw [hw1]; exact bel_setCells (Nat.le_refl _) _ _ (bel_alloc (Below.refl _ _) _)
      have HW1 := Kp.mk (And.intro hput hb1)
      have hl8 := HL.out
      clear hput hb1 hw1 HPU hmk
      generalize hLe : (Lib.uvarint (szSum ss N)).length = L at *
      go_wp2_with fail
      refine wp_region_grow (by kernel_rfl) 7 (by decide) (apart_of (by kernel_rfl)) (by kernel_rfl) (lwR b w.heap.size L) (fun _ _ _ _ => True) (fun _ _ _ _ h _ => by unfold lwR at *; exact h) ?_ ?_
      · intro j hj o ho vs w2 hb hpre
        rcases j with _ | _ | _ | _ | _ | _ | _ | j
        · obtain rfl := Option.some.inj ho
          simp only [canon, List.range, List.range.loop, List.foldl]
          go_simp
          exact ⟨rfl, Below.refl _ _⟩
        · obtain rfl := Option.some.inj ho
          simp only [canon, List.range, List.range.loop, List.foldl]
          go_simp
          exact ⟨rfl, Below.refl _ _⟩
        · obtain rfl := Option.some.inj ho
          simp only [canon, List.range, List.range.loop, List.foldl]
          go_simp
          exact ⟨rfl, Below.refl _ _⟩
        · obtain rfl := Option.some.inj ho
          have e1 : vs 1 = _ := hpre 1 (by decide) rfl
          have e2 : vs 2 = _ := hpre 2 (by decide) rfl
          have hcut := fun W => cut_lo8 w.heap.size L hl8 W
          simp only [canon, List.range, List.range.loop, List.foldl]
          go_simp
          exact ⟨rfl, Below.refl _ _⟩
        · obtain rfl := Option.some.inj ho
          have e0 : vs 0 = _ := hpre 0 (by decide) rfl
          simp only [canon, List.range, List.range.loop, List.foldl]
          go_simp
          exact ⟨rfl, Below.refl _ _⟩
        · obtain rfl := Option.some.inj ho
          have e4 : vs 4 = _ := hpre 4 (by decide) rfl
          simp only [canon, List.range, List.range.loop, List.foldl]
          go_simp
          have hna : (nilAhead 280 83 (.pointer (some ⟨b, 0, none⟩)) "Write").run Tryd.prog w2 = .ok (some false) w2 := by kernel_rfl
          rw [hna]
          go_simp
          exact ⟨rfl, Below.refl _ _⟩
        · obtain rfl := Option.some.inj ho
          have e0 : vs 0 = _ := hpre 0 (by decide) rfl
          simp only [canon, List.range, List.range.loop, List.foldl]
          go_simp
          exact ⟨rfl, Below.refl _ _⟩
        · omega
      · intro vs w2 hb hr hd
        have e3 : vs 3 = _ := hr 3 (by omega)
        have e6 : vs 6 = _ := hr 6 (by omega)
        simp only [canon, List.range, List.range.loop, List.foldl]
        refine wpAny_last 7 (by kernel_rfl) ?_
        refine wpOp_go rfl rfl ?_
        go_simp
        go_upon
        have hb2 := bel_then (bel_drew (Below.refl _ _)) hb
        have hbw2 := bel_then HW1.out.2 hb2
        refine (bufPut_calls B b [] w.heap.size 0 L 8 _ w2 (HB.out.below hbw2) (HW1.out.1.below hb2) (by have := HB.out.lt; omega) (by have := hbw2.size; have := HX.out.1; omega) (by rw [List.length_nil]; omega)).mono ?_
        rintro e w3 ⟨rfl, h1, h2, h3, h4⟩
        have HK3 : Kp (Buf B b (Lib.uvarint (szSum ss N) ++ joined ss 0) w3 ∧ Below B w w3 ∧ Marked w w3 ∧ Beside b w w3) := ⟨by rw [show joined ss 0 = [] from rfl, List.append_nil]; exact h1, (hbw2.mono HX.out.1).trans h2, (marked_below hbw2).trans h3, Lib.OthersKept.trans (beside_below hbw2) h4⟩
        clear h1 h2 h3 h4 hb hr hd hb2 hbw2 HW1
        simp only
        refine wpAny_last 8 (by kernel_rfl) ?_
        refine wpOp_go rfl rfl ?_
        go_simp
        refine wpAny_two 9 10 (by kernel_rfl) ?_ ?_
        · refine wpOp_go rfl rfl ?_
          go_simp
          refine wpAny_two 10 11 (by kernel_rfl) ?_ ?_
          · refine wpOp_go rfl rfl ?_
            go_simp
            refine wpAny_last 11 (by kernel_rfl) ?_
            refine wpOp_go rfl rfl ?_
            go_simp
            refine wpAny_last 12 (by kernel_rfl) ?_
            refine wpOp_go rfl rfl ?_
            go_simp
            refine wpAny_none (by kernel_rfl) ?_ _
            go_wp2_with fail
            go_loopw [11, 46] (fun ve vk wr => ∃ (k : Nat), k ≤ N ∧ ve = .nilIface ∧ vk = .int .i64 k ∧ Kp (Buf B b (Lib.uvarint (szSum ss N) ++ joined ss k) wr ∧ Below B w wr ∧ Marked w wr ∧ Beside b w wr))
              (fun _ vk _ => N - (intOf vk).toNat)
            case atStart => exact ⟨0, by omega, rfl, rfl, HK3⟩
            case round =>
              obtain ⟨k, hkN, rfl, rfl, hK⟩ := hrel
              by_cases hk : k < N
              · obtain ⟨s, x, hs, hx, hpv⟩ := HP.out.2 k hk
                obtain ⟨h, cap2, cs2, fz, rfl, hh1, hh2, hh3⟩ := hpv.marked hK.out.2.2.1
                have hrow := Beside.blk hK.out.2.2.2 HR.out.1 HR.out.2.1 (by decide)
                have hcell := blk_cell hrow k
                rw [HR.out.2.2.2 k hk, hx] at hcell
                have hm : ∀ W, (method 280 83 (.pointer (some ⟨b, 0, none⟩)) "Write").run Tryd.prog W = .ok (98, .pointer (some ⟨b, 0, none⟩)) W := fun _ => by kernel_rfl
                have hhb : h ≠ b := by
                  rintro rfl
                  obtain ⟨_, _, hbk, _⟩ := hK.out.1.2
                  rw [hbk] at hh1
                  injection hh1 with hh1
                  injection hh1 with _ _ hh1
                  exact hh2 hh1.symm
                have hsz := HX.out.2.2.2 s (List.mem_of_getElem? hs)
                have hjl := joined_len ss k
                have hml := szSum_le ss HX.out.2.2.2 k
                have hul := HL.out
                have HW := Kp.mk (bufPut_calls B b _ h 0 _ _ (bl s) wr hK.out.1 hh3 hhb (by have := hK.out.2.1.size; have := HX.out.1; omega) (by rw [List.length_append, hjl, bl_length]; have := HX.out.2.2.1; have := HNe.out; omega))
                have hj1 := Kp.mk (joined_succ ss k hs)
                clear hh1 hh2 hh3 hrow hhb hsz hjl hml hul hpv
                rw [bl_length] at *
                go_wp2_with fail
                refine HW.out.mono ?_
                rintro e w3 ⟨rfl, h1, h2, h3, h4⟩
                have HK4 : Kp (Buf B b (Lib.uvarint (szSum ss N) ++ joined ss (k + 1)) w3 ∧ Below B w w3 ∧ Marked w w3 ∧ Beside b w w3) := ⟨by rw [hj1.out, ← List.append_assoc]; exact h1, hK.out.2.1.trans h2, hK.out.2.2.1.trans h3, Lib.OthersKept.trans hK.out.2.2.2 h4⟩
                clear h1 h2 h3 h4 HW hcell
                go_wp2
                go_roundw
                case rel => exact ⟨k + 1, by omega, rfl, by go_num, HK4⟩
                case measure => simp only [intOf]; omega
              · obtain rfl : k = N := by omega
                go_wp2
                go_ret
                exact ⟨rfl, hK.out⟩
          · refine wpOp_go rfl rfl ?_
            go_simp
            refine wpAny_last 10 (by kernel_rfl) ?_
            refine wpOp_go rfl rfl ?_
            go_simp
            refine wpAny_last 12 (by kernel_rfl) ?_
            refine wpOp_go rfl rfl ?_
            go_simp
            refine wpAny_none (by kernel_rfl) ?_ _
            go_wp2_with fail
            go_loopw [11, 46] (fun ve vk wr => ∃ (k : Nat), k ≤ N ∧ ve = .nilIface ∧ vk = .int .i64 k ∧ Kp (Buf B b (Lib.uvarint (szSum ss N) ++ joined ss k) wr ∧ Below B w wr ∧ Marked w wr ∧ Beside b w wr))
              (fun _ vk _ => N - (intOf vk).toNat)
            case atStart => exact ⟨0, by omega, rfl, rfl, HK3⟩
            case round =>
              obtain ⟨k, hkN, rfl, rfl, hK⟩ := hrel
              by_cases hk : k < N
              · obtain ⟨s, x, hs, hx, hpv⟩ := HP.out.2 k hk
                obtain ⟨h, cap2, cs2, fz, rfl, hh1, hh2, hh3⟩ := hpv.marked hK.out.2.2.1
                have hrow := Beside.blk hK.out.2.2.2 HR.out.1 HR.out.2.1 (by decide)
                have hcell := blk_cell hrow k
                rw [HR.out.2.2.2 k hk, hx] at hcell
                have hm : ∀ W, (method 280 83 (.pointer (some ⟨b, 0, none⟩)) "Write").run Tryd.prog W = .ok (98, .pointer (some ⟨b, 0, none⟩)) W := fun _ => by kernel_rfl
                have hhb : h ≠ b := by
                  rintro rfl
                  obtain ⟨_, _, hbk, _⟩ := hK.out.1.2
                  rw [hbk] at hh1
                  injection hh1 with hh1
                  injection hh1 with _ _ hh1
                  exact hh2 hh1.symm
                have hsz := HX.out.2.2.2 s (List.mem_of_getElem? hs)
                have hjl := joined_len ss k
                have hml := szSum_le ss HX.out.2.2.2 k
                have hul := HL.out
                have HW := Kp.mk (bufPut_calls B b _ h 0 _ _ (bl s) wr hK.out.1 hh3 hhb (by have := hK.out.2.1.size; have := HX.out.1; omega) (by rw [List.length_append, hjl, bl_length]; have := HX.out.2.2.1; have := HNe.out; omega))
                have hj1 := Kp.mk (joined_succ ss k hs)
                clear hh1 hh2 hh3 hrow hhb hsz hjl hml hul hpv
                rw [bl_length] at *
                go_wp2_with fail
                refine HW.out.mono ?_
                rintro e w3 ⟨rfl, h1, h2, h3, h4⟩
                have HK4 : Kp (Buf B b (Lib.uvarint (szSum ss N) ++ joined ss (k + 1)) w3 ∧ Below B w w3 ∧ Marked w w3 ∧ Beside b w w3) := ⟨by rw [hj1.out, ← List.append_assoc]; exact h1, hK.out.2.1.trans h2, hK.out.2.2.1.trans h3, Lib.OthersKept.trans hK.out.2.2.2 h4⟩
                clear h1 h2 h3 h4 HW hcell
                go_wp2
                go_roundw
                case rel => exact ⟨k + 1, by omega, rfl, by go_num, HK4⟩
                case measure => simp only [intOf]; omega
              · obtain rfl : k = N := by omega
                go_wp2
                go_ret
                exact ⟨rfl, hK.out⟩
        · refine wpOp_go rfl rfl ?_
          go_simp
          refine wpAny_last 9 (by kernel_rfl) ?_
          refine wpOp_go rfl rfl ?_
          go_simp
          refine wpAny_last 11 (by kernel_rfl) ?_
          refine wpOp_go rfl rfl ?_
          go_simp
          refine wpAny_last 12 (by kernel_rfl) ?_
          refine wpOp_go rfl rfl ?_
          go_simp
          refine wpAny_none (by kernel_rfl) ?_ _
          go_wp2_with fail
          go_loopw [11, 46] (fun ve vk wr => ∃ (k : Nat), k ≤ N ∧ ve = .nilIface ∧ vk = .int .i64 k ∧ Kp (Buf B b (Lib.uvarint (szSum ss N) ++ joined ss k) wr ∧ Below B w wr ∧ Marked w wr ∧ Beside b w wr))
            (fun _ vk _ => N - (intOf vk).toNat)
          case atStart => exact ⟨0, by omega, rfl, rfl, HK3⟩
          case round =>
            obtain ⟨k, hkN, rfl, rfl, hK⟩ := hrel
            by_cases hk : k < N
            · obtain ⟨s, x, hs, hx, hpv⟩ := HP.out.2 k hk
              obtain ⟨h, cap2, cs2, fz, rfl, hh1, hh2, hh3⟩ := hpv.marked hK.out.2.2.1
              have hrow := Beside.blk hK.out.2.2.2 HR.out.1 HR.out.2.1 (by decide)
              have hcell := blk_cell hrow k
              rw [HR.out.2.2.2 k hk, hx] at hcell
              have hm : ∀ W, (method 280 83 (.pointer (some ⟨b, 0, none⟩)) "Write").run Tryd.prog W = .ok (98, .pointer (some ⟨b, 0, none⟩)) W := fun _ => by kernel_rfl
              have hhb : h ≠ b := by
                rintro rfl
                obtain ⟨_, _, hbk, _⟩ := hK.out.1.2
                rw [hbk] at hh1
                injection hh1 with hh1
                injection hh1 with _ _ hh1
                exact hh2 hh1.symm
              have hsz := HX.out.2.2.2 s (List.mem_of_getElem? hs)
              have hjl := joined_len ss k
              have hml := szSum_le ss HX.out.2.2.2 k
              have hul := HL.out
              have HW := Kp.mk (bufPut_calls B b _ h 0 _ _ (bl s) wr hK.out.1 hh3 hhb (by have := hK.out.2.1.size; have := HX.out.1; omega) (by rw [List.length_append, hjl, bl_length]; have := HX.out.2.2.1; have := HNe.out; omega))
              have hj1 := Kp.mk (joined_succ ss k hs)
              clear hh1 hh2 hh3 hrow hhb hsz hjl hml hul hpv
              rw [bl_length] at *
              go_wp2_with fail
              refine HW.out.mono ?_
              rintro e w3 ⟨rfl, h1, h2, h3, h4⟩
              have HK4 : Kp (Buf B b (Lib.uvarint (szSum ss N) ++ joined ss (k + 1)) w3 ∧ Below B w w3 ∧ Marked w w3 ∧ Beside b w w3) := ⟨by rw [hj1.out, ← List.append_assoc]; exact h1, hK.out.2.1.trans h2, hK.out.2.2.1.trans h3, Lib.OthersKept.trans hK.out.2.2.2 h4⟩
              clear h1 h2 h3 h4 HW hcell
              go_wp2
              go_roundw
              case rel => exact ⟨k + 1, by omega, rfl, by go_num, HK4⟩
              case measure => simp only [intOf]; omega
            · obtain rfl : k = N := by omega
              go_wp2
              go_ret
              exact ⟨rfl, hK.out⟩

end Go.Proofs.YtdppnlomhlnbkaaDoor
