/- The walk of impl.bytesOf. -/
import Derived.Test.YtdppnlomhlnbkaaDoorBufPut
import Derived.Lib.ConvBytes
namespace Go.Proofs.YtdppnlomhlnbkaaDoor
open Go.RowKit

theorem ownsRow_below {w w' : World} {B : Nat} {e : TypeId} {v : Value} {n : Nat} {xs : List Value} (h : w.ownsRow B e 1 v n xs) (hb : Below w.heap.size w w') : w'.ownsRow B e 1 v n xs := by
  refine ⟨h.1, ?_⟩
  rcases h.2 with ho | ⟨g, cap, cur, rfl, hg, hgg, rest⟩
  · exact .inl ho
  · exact .inr ⟨g, cap, cur, rfl, hg, blk_keep hgg hb, rest⟩
theorem marked_grownRow {w w' : World} {B : Nat} {e : TypeId} {v : Value} {n : Nat} {xs : List Value} (h : w.ownsRow B e 1 v n xs) (hg : w.grownBy w' v.ownBlock) : Marked w w' := by
  rcases h.2 with ⟨rfl, _⟩ | ⟨g, cap, cur, rfl, hB, hgg, rest⟩
  · exact fun k cs t fz hk _ => (hg.block k (Array.getElem?_eq_some_iff.1 hk).1 (by simp [Value.ownBlock])).trans hk
  · exact marked_grown hg hgg

/-- The bytes of a string that has been converted. -/
def PartV (v : Value) (bs : List UInt8) (w : World) : Prop := ∃ (h cap : Nat) (cs : Array Value) (fz : Nat × Nat), v = .slice (some ⟨h, 0, none⟩) bs.length cap ∧ w.heap[h]? = some (.cells cs 5 fz) ∧ fz ≠ (0, 0) ∧ RdB w (some ⟨h, 0, none⟩) bs.length cap bs
theorem PartV.marked {v : Value} {bs : List UInt8} {w w' : World} (h : PartV v bs w) (hm : Marked w w') : PartV v bs w' := by
  obtain ⟨h, cap, cs, fz, rfl, h1, h2, h3⟩ := h
  have h4 := hm h cs _ fz h1 h2
  refine ⟨h, cap, cs, fz, rfl, h4, h2, h3.len, h3.cap, h3.most, fun h0 => ?_⟩
  obtain ⟨g, o, e, hc⟩ := h3.lies h0
  have e' := Option.some.inj e
  simp only [Addr.mk.injEq] at e'
  obtain ⟨rfl, rfl, _⟩ := e'
  exact ⟨_, _, rfl, fun i hi => (World.cell?_of_block (a := ⟨h, 0 + i, none⟩) (h4.trans h1.symm)).trans (hc i hi)⟩
theorem partV_new (w : World) (s : ByteArray) (hs : s.size < 2 ^ 63) : PartV (.slice (some ⟨w.heap.size, 0, none⟩) s.size (grownCap w s.size 0 5)) (bl s) (Lib.bytesWorld w 5 s) := by
  have h := rd_bytes w 5 s hs
  have hl := bl_length s
  refine ⟨w.heap.size, _, _, _, by rw [hl], Lib.bytesWorld_at_new w _ s, ?_, ?_⟩
  · intro e; have := congrArg Prod.snd e; simp at this
  · rw [hl]; exact h

/-- What is known of a row of parts. -/
def PartsIn (w : World) (B : Nat) (v : Value) (xs : List Value) (ss : List ByteArray) (k : Nat) : Prop :=
  w.ownsRow B 62 1 v k xs ∧ ∀ j, j < k → ∃ s x, ss[j]? = some s ∧ xs[j]? = some x ∧ PartV x (bl s) w

set_option maxHeartbeats 8000000 in
set_option maxRecDepth 100000 in
/-- impl.bytesOf. -/
theorem bytesOf_calls (g c : Nat) (ss : List ByteArray) (t : TypeId) (cs : Array Value) (w : World) (hg : w.heap[g]? = some (.cells cs t (0, 0))) (hcs : ∀ (j : Nat) (s : ByteArray), ss[j]? = some s → cs[j]? = some (Value.string s)) (hN : ss.length ≤ 1000) (hsz : ∀ s ∈ ss, s.size ≤ 2147483647) :
    Calls Tryd.prog 38 #[.slice (some ⟨g, 0, none⟩) ss.length c] w fun e w' => (∃ v xs, e = .returned v ∧ PartsIn w' w.heap.size v xs ss ss.length) ∧ Below w.heap.size w w' ∧ Marked w w' := by
  obtain ⟨i0, hi, hz0, hz1, hz2⟩ := info_parts (show (Tryd.prog.info? 62).map (fun i => (i.zero, i.size, i.bytes)) = some (some (.slice none 0 0), 1, 24) by kernel_rfl)
  have HI := Kp.mk (And.intro hi (And.intro hz0 (And.intro hz1 hz2)))
  have HG := Kp.mk (And.intro hg hcs)
  have hgl : g < w.heap.size := (Array.getElem?_eq_some_iff.1 hg).1
  have HS := Kp.mk hsz
  have HGL := Kp.mk hgl
  obtain ⟨N, hNe⟩ : ∃ N, N = ss.length := ⟨_, rfl⟩
  rw [← hNe] at hN ⊢
  have HNe := Kp.mk hNe
  clear hi hz0 hz1 hz2 hg hcs hsz hgl hNe
  go_enter Tryd.func38, Tryd.ntmps38
  go_wp2
  go_loopw [3, 8] (fun vo vk wr => ∃ (k : Nat) (xs : List Value), k ≤ N ∧ vk = .int .i64 k ∧ Kp (PartsIn wr w.heap.size vo xs ss k ∧ Below w.heap.size w wr ∧ Marked w wr))
    (fun _ vk _ => N - (intOf vk).toNat)
  case atStart => exact ⟨0, [], by omega, rfl, ⟨⟨World.ownsRow_nil _ _ _ _, fun j hj => by omega⟩, Below.refl _ _, Marked.refl _⟩⟩
  case round =>
    obtain ⟨k, xs, hkN, rfl, hK⟩ := hrel
    by_cases hk : k < N
    · obtain ⟨s, hs⟩ : ∃ s, ss[k]? = some s := ⟨_, List.getElem?_eq_getElem (by have := HNe.out; omega)⟩
      have hsz := HS.out s (List.mem_of_getElem? hs)
      have hkb := fun W => Lib.run_convert_string_bytes (P := Tryd.prog) W 9 62 5 s Tryd.underlying9 Tryd.underlying62 Tryd.underlying5
      have KS := Kp.mk (And.intro hs hsz)
      have hcell : wr.cell? ⟨g, k, none⟩ = some (.string s) := by
        have h1 := cell_bel hK.out.2.1 (by rw [blk_cell HG.out.1 k]; exact HG.out.2 k s hs : w.cell? ⟨g, k, none⟩ = some (.string s))
        exact h1
      have hb1 : Below wr.heap.size wr (Lib.bytesWorld wr 5 s) := bel_bytes (Below.refl _ _) _ _
      have hpv := partV_new wr s (by omega)
      have hsz1 : (Lib.bytesWorld wr 5 s).heap.size = wr.heap.size + 1 := by rw [Lib.bytesWorld_size]
      generalize hgc : grownCap wr s.size 0 5 = gc at *
      have hb2 := bel_then hb1 (bel_alloc (Below.refl (Lib.bytesWorld wr 5 s).heap.size _) (.cells #[.slice (some ⟨wr.heap.size, 0, none⟩) s.size gc] 62))
      have hown := ownsRow_below hK.out.1.1 hb2
      have hbase : w.heap.size ≤ ((Lib.bytesWorld wr 5 s).alloc (.cells #[.slice (some ⟨wr.heap.size, 0, none⟩) s.size gc] 62)).heap.size := by have := hK.out.2.1.size; have := hb2.size; omega
      have KA := Kp.mk (And.intro hb2 (And.intro hown (And.intro hbase (And.intro hpv hb1))))
      clear hsz hb1 hpv hb2 hown hbase
      go_wp2_with (at_builtin; refine wpList_append_own _ rfl _ _ 84 rfl w.heap.size 62 i0 (.slice none 0 0) 1 24 Tryd.underlying84 HI.out.1 HI.out.2.1 HI.out.2.2.1 HI.out.2.2.2 rfl (by decide) _ _ _ rfl KA.out.2.1 ⟨wr.heap.size + 1, 0, none⟩ 1 1 [.slice (some ⟨wr.heap.size, 0, none⟩) s.size gc] rfl rfl ?c1 ?c2 ?c3 ?c4 KA.out.2.2.1 ?_)
      case c1 =>
        intro j u hj
        match j, hj with
        | 0, hj =>
          simp at hj; subst hj
          rw [← hsz1]
          simp [World.cell?, World.alloc, -World.alloc_eq, Addr.add]
      case c2 => intro u hu; simp at hu; subst hu; rfl
      case c3 => unfold maxLen; omega
      case c4 => omega
      intro v' w2 hown' hgrow _
      have hm1 : Marked wr w2 := (marked_below KA.out.1).trans (marked_grownRow KA.out.2.1 hgrow)
      have hm2 : Marked (Lib.bytesWorld wr 5 s) w2 := (marked_below (bel_alloc (Below.refl _ _) _)).trans (marked_grownRow KA.out.2.1 hgrow)
      have hxl : xs.length = k := by have := hK.out.1.1.1; omega
      have KE : Kp (PartsIn w2 w.heap.size v' (xs ++ [.slice (some ⟨wr.heap.size, 0, none⟩) s.size gc]) ss (k + 1) ∧ Below w.heap.size w w2 ∧ Marked w w2) := ⟨⟨hown', fun j hj => by
          by_cases hjk : j < k
          · obtain ⟨s', x, h1, h2, h3⟩ := hK.out.1.2 j hjk
            exact ⟨s', x, h1, by rw [List.getElem?_append_left (by omega)]; exact h2, h3.marked hm1⟩
          · obtain rfl : j = k := by omega
            exact ⟨s, _, KS.out.1, by rw [List.getElem?_append_right (by omega), hxl, Nat.sub_self]; rfl, KA.out.2.2.2.1.marked hm2⟩⟩,
        (hK.out.2.1.trans (KA.out.1.mono hK.out.2.1.size)).grown hgrow KA.out.2.2.1 (fun q hq => (KA.out.2.1.lt q hq).1), hK.out.2.2.trans hm1⟩
      clear hown' hgrow hm1 hm2 hxl hcell hgc hsz1 hkb
      go_wp2
      go_roundw
      case rel => exact ⟨k + 1, _, by omega, by go_num, KE⟩
      case measure => simp only [intOf]; omega
    · have hkN' : k = N := by omega
      subst hkN'
      go_wp2
      go_ret
      exact ⟨⟨_, xs, rfl, hK.out.1⟩, hK.out.2⟩

end Go.Proofs.YtdppnlomhlnbkaaDoor
