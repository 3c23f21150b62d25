/- Some texts in one: Ins, InsTop, IxRec, IxRec2, Ents. -/
import Derived.Test.YtgjocdnpephcgaaGreatDoorLlrbA
import Derived.Test.YtgjocdnpephcgaaGreatDoorLessA
import Derived.Test.YtgjocdnpephcgaaGreatDoorTidy
import Derived.Test.YtgjocdnpephcgaaGreatDoorReadNode
namespace Go.Proofs.YtgjocdnpephcgaaGreatDoor
open Go.RowKit

/-- An item put behind all that do not stand behind it. -/
def ins (x : Itm) : List Itm → List Itm
  | [] => [x]
  | y :: L => if dLt x.ds y.ds then x :: y :: L else y :: ins x L
def Sorted (L : List Itm) : Prop := L.Pairwise fun a b => dLe a.ds b.ds
theorem ins_left {x y : Itm} (h : dLt x.ds y.ds = true) (r : List Itm) : ∀ l : List Itm, ins x (l ++ y :: r) = ins x l ++ y :: r
  | [] => by simp [ins, h]
  | z :: l => by
    simp only [List.cons_append, ins]
    split
    · simp
    · rw [ins_left h r l]; rfl
theorem ins_right {x y : Itm} (h : dLt x.ds y.ds = false) (r : List Itm) : ∀ l : List Itm, (∀ z ∈ l, dLt x.ds z.ds = false) → ins x (l ++ y :: r) = l ++ y :: ins x r
  | [], _ => by simp [ins, h]
  | z :: l, hl => by
    simp only [List.cons_append, ins]
    rw [if_neg (by simp [hl z (by simp)]), ins_right h r l fun w hw => hl w (by simp [hw])]
theorem ins_perm (x : Itm) : ∀ L : List Itm, (ins x L).Perm (x :: L)
  | [] => List.Perm.refl _
  | y :: L => by
    unfold ins
    split
    · exact List.Perm.refl _
    · exact (List.Perm.cons y (ins_perm x L)).trans (List.Perm.swap x y L)
theorem ins_sorted {x : Itm} : ∀ {L : List Itm}, Sorted L → Sorted (ins x L)
  | [], _ => by simp [ins, Sorted]
  | y :: L, h => by
    unfold ins
    split
    · rename_i hlt
      refine List.Pairwise.cons (fun z hz => ?_) h
      rcases List.mem_cons.1 hz with rfl | hz
      · exact dLe_of_lt hlt
      · exact dLe_trans (dLe_of_lt hlt) ((List.pairwise_cons.1 h).1 z hz)
    · rename_i hlt
      obtain ⟨h1, h2⟩ := List.pairwise_cons.1 h
      refine List.Pairwise.cons (fun z hz => ?_) (ins_sorted h2)
      rcases List.mem_cons.1 ((ins_perm x L).mem_iff.1 hz) with rfl | hz
      · simpa [dLe] using hlt
      · exact h1 z hz

/-- The digests can be read. -/
def ItsOk (w : World) (L : List Itm) : Prop := ∀ x ∈ L, RdB w x.A x.ds.length x.c x.ds
theorem ItsOk.below {w w1 : World} {L : List Itm} (h : ItsOk w L) (hb : Below w.heap.size w w1) : ItsOk w1 L := fun x hx => (h x hx).below hb
theorem ItsOk.turn {w w1 : World} {L : List Itm} {T T' : LT} (h : ItsOk w L) (hi : T.In w) (ht : Turn w w1 T T') : ItsOk w1 L := fun x hx => (h x hx).exN ht.ex fun k hk => hi.no_u8 k hk

theorem nodup_mk {b : Nat} {x : Itm} {k : Bool} {l r : LT} (h1 : b ∉ l.blks) (h2 : b ∉ r.blks) (h3 : l.blks.Nodup) (h4 : r.blks.Nodup) (h5 : ∀ c ∈ l.blks, c ∉ r.blks) : (LT.node b x k l r).blks.Nodup := by
  simp only [LT.blks, List.nodup_cons, List.mem_append, not_or, List.nodup_append]
  exact ⟨⟨h1, h2⟩, h3, h4, fun a ha c hc e => h5 a ha (e ▸ hc)⟩
/-- The left tree of a node turned. -/
theorem Turn.left {b : Nat} {x : Itm} {k : Bool} {l l' r : LT} {w w2 : World} (h : (LT.node b x k l r).In w) (hn : (LT.node b x k l r).blks.Nodup) (ht : Turn w w2 l l') :
    Turn w (w2.setCell ⟨b, 1, none⟩ l'.ptr) (.node b x k l r) (.node b x k l' r) := by
  obtain ⟨n1, n2, n3, n4, n5⟩ := nodup_node hn
  have hbl := (Array.getElem?_eq_some_iff.1 h.1).1
  have hb' : b ∉ l'.blks := fun hm => (ht.blks b hm).elim n1 (fun x => by omega)
  have hb2 := ht.ex.keep h.1 n1
  refine ⟨⟨?_, ?_, ?_⟩, nodup_mk hb' n2 ht.nd n4 (fun c hc hr => (ht.blks c hc).elim (fun x => n5 c x hr) (fun x => by have := h.2.2.lt c hr; omega)), ?_, ?_⟩
  · exact blk_set hb2 1 _
  · exact ht.inn.keep fun j hj => Below.heap_setCell _ ⟨b, 1, none⟩ _ j (fun e => hb' ((show j = b from e) ▸ hj))
  · refine (h.2.2.ex ht.ex fun j hj hl => n5 j hl hj).keep fun j hj => Below.heap_setCell _ ⟨b, 1, none⟩ _ j (fun e => n2 ((show j = b from e) ▸ hj))
  · intro j hj
    simp only [LT.blks, List.mem_cons, List.mem_append] at hj ⊢
    rcases hj with rfl | hj | hj
    · exact .inl (.inl rfl)
    · exact (ht.blks j hj).imp (fun x => .inr (.inl x)) id
    · exact .inl (.inr (.inr hj))
  · exact Ex.setCell (p := ⟨b, 1, none⟩) (ht.ex.mono fun j hj => by simp [LT.blks, hj]) (by simp [LT.blks]) _
/-- The right tree of a node turned. -/
theorem Turn.right {b : Nat} {x : Itm} {k : Bool} {l r r' : LT} {w w2 : World} (h : (LT.node b x k l r).In w) (hn : (LT.node b x k l r).blks.Nodup) (ht : Turn w w2 r r') :
    Turn w (w2.setCell ⟨b, 2, none⟩ r'.ptr) (.node b x k l r) (.node b x k l r') := by
  obtain ⟨n1, n2, n3, n4, n5⟩ := nodup_node hn
  have hbl := (Array.getElem?_eq_some_iff.1 h.1).1
  have hb' : b ∉ r'.blks := fun hm => (ht.blks b hm).elim n2 (fun x => by omega)
  have hb2 := ht.ex.keep h.1 n2
  refine ⟨⟨?_, ?_, ?_⟩, nodup_mk n1 hb' n3 ht.nd (fun c hc hr => (ht.blks c hr).elim (fun x => n5 c hc x) (fun x => by have := h.2.1.lt c hc; omega)), ?_, ?_⟩
  · exact blk_set hb2 2 _
  · refine (h.2.1.ex ht.ex fun j hj hl => n5 j hj hl).keep fun j hj => Below.heap_setCell _ ⟨b, 2, none⟩ _ j (fun e => n1 ((show j = b from e) ▸ hj))
  · exact ht.inn.keep fun j hj => Below.heap_setCell _ ⟨b, 2, none⟩ _ j (fun e => hb' ((show j = b from e) ▸ hj))
  · intro j hj
    simp only [LT.blks, List.mem_cons, List.mem_append] at hj ⊢
    rcases hj with rfl | hj | hj
    · exact .inl (.inl rfl)
    · exact .inl (.inr (.inl hj))
    · exact (ht.blks j hj).imp (fun x => .inr (.inr x)) id
  · exact Ex.setCell (p := ⟨b, 2, none⟩) (ht.ex.mono fun j hj => by simp [LT.blks, hj]) (by simp [LT.blks]) _

set_option maxHeartbeats 400000 in
theorem walkDown_calls (u : Option Addr) (w : World) :
    Calls Tryz.prog 84 #[.pointer u] w fun e w' => e = .returned (.pointer u) ∧ w = w' := by
  go_enter Tryz.func84, Tryz.ntmps84
  go_wp2
  go_ret
  exact ⟨rfl, rfl⟩

/-- What insertNoReplace leaves. -/
def InsEnd (w : World) (T : LT) (x : Itm) (e : Ending) (w' : World) : Prop := ∃ T', e = .returned T'.ptr ∧ T' ≠ .nil ∧ T'.items = ins x T.items ∧ Turn w w' T T'
theorem insEnd {w w' : World} {T T' : LT} {x : Itm} {v : Value} (h : v = T'.ptr) (h1 : T' ≠ .nil) (h2 : T'.items = ins x T.items) (h3 : Turn w w' T T') : InsEnd w T x (.returned v) w' := ⟨T', by rw [h], h1, h2, h3⟩

set_option maxHeartbeats 4000000 in
set_option maxRecDepth 100000 in
/-- insertNoReplace. -/
theorem insert_calls (t0 : Option Addr) (x : Itm) (T : LT) : ∀ w : World, T.In w → T.blks.Nodup → Sorted T.items → ItsOk w T.items → ItsOk w [x] →
    Calls Tryz.prog 74 #[.pointer t0, T.ptr, x.val] w fun e w' => InsEnd w T x e w' := by
  induction T with
  | nil =>
    intro w _ _ _ _ _
    show Calls Tryz.prog 74 #[.pointer t0, .pointer none, .iface 90 (.agg #[.slice x.A x.ds.length x.c, .string x.S, .int .u64 x.off])] w _
    go_enter Tryz.func74, Tryz.ntmps74
    go_wp2
    go_ret
    refine insEnd (T' := .node w.heap.size x false .nil .nil) rfl (fun h => by cases h) rfl ⟨⟨blk_new (Below.refl _ _), trivial, trivial⟩, by simp [LT.blks], fun b hb => ?_, Ex.of_below (bel_alloc (Below.refl _ _) _)⟩
    simp [LT.blks] at hb
    exact .inr (by omega)
  | node b y k l r ihl ihr =>
    intro w h hn hs hk hx
    obtain ⟨ul, hul⟩ := l.ptr_some
    obtain ⟨ur, hur⟩ := r.ptr_some
    have hc := h.1
    simp only [nodeCs, hul, hur] at hc
    have c0 := blk_cell hc 0
    have HS := Kp.mk hs
    have hok : RdB w y.A y.ds.length y.c y.ds := hk y (by simp [LT.items])
    have HL := Kp.mk (fun W (hb : Below w.heap.size w W) => less_calls x y W ((hx x (by simp)).below hb) (hok.below hb))
    have hsl : Sorted l.items := (List.pairwise_append.1 hs).1
    have hsr : Sorted r.items := (List.pairwise_cons.1 (List.pairwise_append.1 hs).2.1).2
    have hkl : ItsOk w l.items := fun z hz => hk z (by simp [LT.items, hz])
    have hkr : ItsOk w r.items := fun z hz => hk z (by simp [LT.items, hz])
    obtain ⟨n1, n2, n3, n4, n5⟩ := nodup_node hn
    have HIL := Kp.mk (fun W (hb : Below w.heap.size w W) => ihl W (h.2.1.below hb) n3 hsl (hkl.below hb) (hx.below hb))
    have HIR := Kp.mk (fun W (hb : Below w.heap.size w W) => ihr W (h.2.2.below hb) n4 hsr (hkr.below hb) (hx.below hb))
    rw [hul] at HIL
    rw [hur] at HIR
    have HT := Kp.mk (And.intro h hn)
    have HLE : Kp (∀ z ∈ l.items, dLe z.ds y.ds) := ⟨fun z hz => (List.pairwise_append.1 hs).2.2 z hz y (by simp)⟩
    have HC := Kp.mk hc
    clear hs hok hsl hsr hkl hkr n1 n2 n3 n4 n5 h hn hk hx ihl ihr hul hur hc
    show Calls Tryz.prog 74 #[.pointer t0, .pointer (some ⟨b, 0, none⟩), x.val] w _
    go_enter Tryz.func74, Tryz.ntmps74
    go_wp2_with fail
    refine (walkDown_calls _ _).mono ?_
    rintro e w1 ⟨rfl, hw⟩
    obtain rfl := hw
    go_wp2_with fail
    refine (HL.out _ (Below.refl _ _)).mono ?_
    rintro e w1 ⟨rfl, hb⟩
    have HB1 := Kp.mk hb
    have hc1 := blk_keep HC.out hb
    have c1 := blk_cell hc1 1
    have c2 := blk_cell hc1 2
    clear hb HL c0 hc1
    cases hlt : dLt x.ds y.ds with
    | true =>
      have HLT := Kp.mk hlt
      clear hlt
      go_wp2_with fail
      refine (HIL.out _ HB1.out).mono ?_
      rintro e w2 ⟨T', rfl, hne, hit, ht⟩
      have HU := Kp.mk ((Turn.refl HT.out.1 HT.out.2).below HB1.out |>.trans (Turn.left (HT.out.1.below HB1.out) HT.out.2 ht))
      have hb2 := ht.ex.keep (blk_keep HC.out HB1.out) (nodup_node HT.out.2).1
      have d1 := blk_cell hb2 1
      have f1 := blk_frozen hb2 1
      obtain ⟨u, hu⟩ := T'.ptr_some
      rw [hu] at HU ⊢
      have HI := Kp.mk hit
      clear hne hit ht hb2 c1 c2 HIL HIR
      go_wp2_with fail
      clear d1 f1
      refine (walkUp_calls b y k T' r _ HU.out.inn HU.out.nd).mono ?_
      rintro e w3 ⟨v, T2, rfl, hv, hne, hit, ht⟩
      have HE : Kp (InsEnd w (.node b y k l r) x (.returned v) w3) := ⟨insEnd hv hne (by rw [hit]; simp only [LT.items]; rw [HI.out, ins_left HLT.out]) (HU.out.trans ht)⟩
      clear hv hne hit ht
      go_wp2_with fail
      go_ret
      exact HE.out
    | false =>
      have HLT := Kp.mk hlt
      clear hlt
      go_wp2_with fail
      refine (HIR.out _ HB1.out).mono ?_
      rintro e w2 ⟨T', rfl, hne, hit, ht⟩
      have HU := Kp.mk ((Turn.refl HT.out.1 HT.out.2).below HB1.out |>.trans (Turn.right (HT.out.1.below HB1.out) HT.out.2 ht))
      have hb2 := ht.ex.keep (blk_keep HC.out HB1.out) (nodup_node HT.out.2).2.1
      have d1 := blk_cell hb2 2
      have f1 := blk_frozen hb2 2
      obtain ⟨u, hu⟩ := T'.ptr_some
      rw [hu] at HU ⊢
      have HI := Kp.mk hit
      clear hne hit ht hb2 c1 c2 HIL HIR
      go_wp2_with fail
      clear d1 f1
      refine (walkUp_calls b y k l T' _ HU.out.inn HU.out.nd).mono ?_
      rintro e w3 ⟨v, T2, rfl, hv, hne, hit, ht⟩
      have HE : Kp (InsEnd w (.node b y k l r) x (.returned v) w3) := ⟨insEnd hv hne (by rw [hit]; simp only [LT.items]; rw [HI.out, ins_right HLT.out _ _ (fun z hz => dLe_trans (HLE.out z hz) HLT.out)]) (HU.out.trans ht)⟩
      clear hv hne hit ht
      go_wp2_with fail
      go_ret
      exact HE.out

end Go.Proofs.YtgjocdnpephcgaaGreatDoor
namespace Go.Proofs.YtgjocdnpephcgaaGreatDoor
open Go.RowKit

/-- Block g holds an index of these items, in this order; all its blocks lie at B or above. -/
def OwnT (B : Nat) (w : World) (g : Nat) (T : LT) (L : List Itm) : Prop :=
  w.heap[g]? = some (.cells #[.int .i64 (L.length : Int), T.ptr] 85 (0, 0)) ∧ T.In w ∧ T.blks.Nodup ∧ T.items = L ∧ Sorted L ∧ ItsOk w L ∧ B ≤ g ∧ (∀ b ∈ T.blks, B ≤ b) ∧ g ∉ T.blks
def Own (B : Nat) (w : World) (g : Nat) (L : List Itm) : Prop := ∃ T, OwnT B w g T L
theorem Own.below {B g : Nat} {w w1 : World} {L : List Itm} (h : Own B w g L) (hb : Below w.heap.size w w1) : Own B w1 g L := by
  obtain ⟨T, h1, h2, h3, h4, h5, h6, h7, h8, h9⟩ := h
  exact ⟨T, blk_keep h1 hb, h2.below hb, h3, h4, h5, h6.below hb, h7, h8, h9⟩
/-- A block of the index. -/
def IxB (w : World) (g k : Nat) : Prop := k = g ∨ ∃ cs, w.heap[k]? = some (.cells cs 122 (0, 0))
theorem LT.In.node_of {w : World} : ∀ {T : LT}, T.In w → ∀ b ∈ T.blks, ∃ cs, w.heap[b]? = some (.cells cs 122 (0, 0))
  | .nil, _, b, hb => by simp [LT.blks] at hb
  | .node b x k l r, ⟨h1, h2, h3⟩, c, hc => by
    simp only [LT.blks, List.mem_cons, List.mem_append] at hc
    rcases hc with rfl | hc | hc
    · exact ⟨_, h1⟩
    · exact h2.node_of c hc
    · exact h3.node_of c hc

set_option maxHeartbeats 4000000 in
set_option maxRecDepth 100000 in
/-- (*llrb.LLRB).InsertNoReplace. -/
theorem insTop_calls (B g : Nat) (x : Itm) (L : List Itm) (w : World) (h : Own B w g L) (hx : ItsOk w [x]) (hl : L.length ≤ 1000) :
    Calls Tryz.prog 45 #[.pointer (some ⟨g, 0, none⟩), x.val] w fun e w' => e = .returned (.tuple #[]) ∧ Own B w' g (ins x L) ∧ Below B w w' ∧ Ex (IxB w g) w w' := by
  obtain ⟨T, h1, h2, h3, h4, h5, h6, h7, h8, h9⟩ := h
  have HI := Kp.mk (insert_calls (some ⟨g, 0, none⟩) x T w h2 h3 (by rw [h4]; exact h5) (by rw [h4]; exact h6) hx)
  obtain ⟨u, hu⟩ := T.ptr_some
  rw [hu] at HI h1
  have hgl := (Array.getElem?_eq_some_iff.1 h1).1
  have H := Kp.mk (And.intro h1 (And.intro h2 (And.intro h3 (And.intro h4 (And.intro h5 (And.intro h6 (And.intro h7 (And.intro h8 h9))))))))
  have HX := Kp.mk hx
  have c0 := blk_cell h1 0
  have c1 := blk_cell h1 1
  clear h1 h2 h3 h4 h5 h6 h7 h8 h9 hu hx
  unfold Itm.val at HI ⊢
  go_enter Tryz.func45, Tryz.ntmps45
  go_wp2_with fail
  refine HI.out.mono ?_
  rintro e w1 ⟨T', rfl, hne, hit, ht⟩
  obtain ⟨b, y, k, l, r, rfl⟩ : ∃ b x k l r, T' = .node b x k l r := by
    cases T' with
    | nil => exact absurd rfl hne
    | node b x k l r => exact ⟨b, x, k, l, r, rfl⟩
  rw [LT.ptr_node]
  have hgb : g ≠ b := fun e => (ht.blks b (by simp [LT.blks])).elim (fun h => H.out.2.2.2.2.2.2.2.2 (e ▸ h)) (fun h => by omega)
  have hg1 := ht.ex.keep H.out.1 H.out.2.2.2.2.2.2.2.2
  have hb1 := ht.inn.1
  obtain ⟨ul, hul⟩ := l.ptr_some
  obtain ⟨ur, hur⟩ := r.ptr_some
  obtain ⟨w2, hw2⟩ : ∃ W, W = w1.setCell ⟨g, 1, none⟩ (.pointer (some ⟨b, 0, none⟩)) := ⟨_, rfl⟩
  obtain ⟨w3, hw3⟩ : ∃ W, W = w2.setCell ⟨b, 3, none⟩ (.bool true) := ⟨_, rfl⟩
  obtain ⟨w4, hw4⟩ : ∃ W, W = w3.setCell ⟨g, 0, none⟩ (.int .i64 ((L.length : Int) + 1)) := ⟨_, rfl⟩
  have g2 : w2.heap[g]? = some (.cells #[.int .i64 (L.length : Int), .pointer (some ⟨b, 0, none⟩)] 85 (0, 0)) := by rw [hw2]; exact blk_set hg1 1 _
  have b2 : w2.heap[b]? = some (.cells (nodeCs y k l r) 122 (0, 0)) := by rw [hw2]; exact blk_far (p := ⟨g, 1, none⟩) hb1 hgb.symm _
  have g3 : w3.heap[g]? = some (.cells #[.int .i64 (L.length : Int), .pointer (some ⟨b, 0, none⟩)] 85 (0, 0)) := by rw [hw3]; exact blk_far (p := ⟨b, 3, none⟩) g2 hgb _
  have b3 : w3.heap[b]? = some (.cells (nodeCs y true l r) 122 (0, 0)) := by rw [hw3]; exact blk_set b2 3 _
  have g4 : w4.heap[g]? = some (.cells #[.int .i64 ((L.length : Int) + 1), .pointer (some ⟨b, 0, none⟩)] 85 (0, 0)) := by rw [hw4]; exact blk_set g3 0 _
  have b4 : w4.heap[b]? = some (.cells (nodeCs y true l r) 122 (0, 0)) := by rw [hw4]; exact blk_far (p := ⟨g, 0, none⟩) b3 hgb.symm _
  have hkeep : ∀ j, j ≠ g → j ≠ b → w4.heap[j]? = w1.heap[j]? := fun j h1 h2 => by
    rw [hw4, Below.heap_setCell _ ⟨g, 0, none⟩ _ j h1, hw3, Below.heap_setCell _ ⟨b, 3, none⟩ _ j h2, hw2, Below.heap_setCell _ ⟨g, 1, none⟩ _ j h1]
  have hgT : g ∉ (LT.node b y k l r).blks := fun hm => (ht.blks g hm).elim H.out.2.2.2.2.2.2.2.2 (fun h => by omega)
  obtain ⟨n1, n2, n3, n4, n5⟩ := nodup_node ht.nd
  have hex0 : Ex (fun k => k = g ∨ k ∈ T.blks) w w4 := by
    have e1 : Ex (fun k => k = g ∨ k ∈ T.blks) w w1 := ht.ex.mono fun j hj => .inr hj
    refine e1.ext (Q := fun j => j = g ∨ j = b) ⟨?_, ?_, ?_, ?_, fun j _ hj => hkeep j (fun e => hj (.inl e)) (fun e => hj (.inr e))⟩ (fun j hj hq => hq.elim .inl (fun e => ?_))
    · rw [hw4, hw3, hw2]; rfl
    · rw [hw4, hw3, hw2]; rfl
    · rw [hw4, hw3, hw2]; rfl
    · rw [hw4, hw3, hw2]; simp [World.setCell]
    · exact (ht.blks b (by simp [LT.blks])).elim (fun h => .inr (e ▸ h)) (fun h => by omega)
  have hex : Ex (IxB w g) w w4 := hex0.mono fun j hj => hj.imp id (H.out.2.1.node_of j)
  have HO : Kp (Own B w4 g (ins x L) ∧ Below B w w4 ∧ Ex (IxB w g) w w4) := by
    have hln : ((ins x L).length : Int) = (L.length : Int) + 1 := by rw [(ins_perm x L).length_eq]; simp
    refine ⟨⟨.node b y true l r, ?_, ⟨b4, ?_, ?_⟩, ht.nd, ?_, ins_sorted H.out.2.2.2.2.1, ?_, H.out.2.2.2.2.2.2.1, ?_, hgT⟩, hex0.toBelow ?_ ?_, hex⟩
    · rw [hln]; exact g4
    · exact ht.inn.2.1.keep fun j hj => hkeep j (fun e => hgT (by simp [LT.blks, ← e, hj])) (fun e => n1 (e ▸ hj))
    · exact ht.inn.2.2.keep fun j hj => hkeep j (fun e => hgT (by simp [LT.blks, ← e, hj])) (fun e => n2 (e ▸ hj))
    · rw [← H.out.2.2.2.1]; exact hit
    · intro z hz
      have hz1 : RdB w z.A z.ds.length z.c z.ds := by
        rcases List.mem_cons.1 ((ins_perm x L).mem_iff.1 hz) with rfl | hz
        · exact HX.out z (by simp)
        · exact H.out.2.2.2.2.2.1 z hz
      refine hz1.exN hex0 fun j hj => ?_
      rcases hj with rfl | hj
      · exact ⟨_, _, H.out.1, fun i z => by rcases i with _ | _ | i <;> simp⟩
      · exact H.out.2.1.no_u8 j hj
    · intro j hj
      exact (ht.blks j (by simpa [LT.blks] using hj)).elim (H.out.2.2.2.2.2.2.2.1 j) (fun h => by have := H.out.2.2.2.2.2.2.1; omega)
    · intro j hj hq
      exact hq.elim (fun e => by have := H.out.2.2.2.2.2.2.1; omega) (fun h => by have := H.out.2.2.2.2.2.2.2.1 j h; omega)
    · have := H.out.2.2.2.2.2.2.1; omega
  subst hw4 hw3 hw2
  have d1 := blk_cell hg1 1
  have f1 := blk_frozen hg1 1
  have c2 := blk_cell g2 1
  have d3 := blk_cell b2 3
  simp only [nodeCs] at d3
  have f3 := blk_frozen b2 3
  have c3 := blk_cell g3 0
  have f4 := blk_frozen g3 0
  clear c0 c1 hne hit ht hgb hg1 hb1 g2 b2 g3 b3 g4 b4 hkeep hgT n1 n2 n3 n4 n5 hex hex0 hul hur hgl
  go_wp2_with fail
  go_end0
  exact ⟨rfl, HO.out⟩

end Go.Proofs.YtgjocdnpephcgaaGreatDoor
namespace Go.Proofs.YtgjocdnpephcgaaGreatDoor
open Go.RowKit

/-- A tidy identifier's Hash is its multihash. -/
theorem tHash_calls (v codec code : Nat) (s : ByteArray) (w : World) (h : Tidy v codec code s) (hs : s.size ≤ 1073741824) (he : MhErrs w) :
    Calls Tryz.prog 44 #[.agg #[.string (strB (cidB v codec code s))]] w fun e w' => (∃ A n c, e = .returned (.slice A n c) ∧ RdB w' A n c (mhBytes code (bl s))) ∧ Below w.heap.size w w' := by
  have hl := bl_length s
  rcases h with ⟨rfl, rfl, rfl, h⟩ | ⟨rfl, h1, h2⟩
  · have hc : cidB 0 112 18 s = 18 :: 32 :: bl s := rfl
    have hsz : (strB (cidB 0 112 18 s)).size = 34 := by rw [strB_size, hc]; simp; omega
    have hb : bl (strB (cidB 0 112 18 s)) = mhBytes 18 (bl s) := by rw [bl_strB, hc, cid0_bytes (by omega)]
    have hb' : bl (strB (cidB 0 112 18 s)) = 18 :: 32 :: bl s := by rw [bl_strB, hc]
    refine (cidHash0_calls _ w hsz (by rw [hb']; rfl) (by rw [hb']; rfl)).mono ?_
    rintro e w1 ⟨⟨A, c, rfl, hr⟩, hbel⟩
    rw [hb] at hr
    exact ⟨⟨_, _, _, rfl, hr⟩, hbel⟩
  · have hc : cidB 1 codec code s = cdBytes codec code (bl s) := rfl
    have hT : Tidy 1 codec code s := .inr ⟨rfl, h1, h2⟩
    have hS : CidS (strB (cidB 1 codec code s)) codec code (bl s) (Lib.uvarint codec).length (Lib.uvarint code).length :=
      ⟨by rw [bl_strB, hc], by rw [strB_size]; have := (hT.len (by omega)).1; omega, rfl, rfl, h1, h2⟩
    refine (cidHash1_calls _ codec code (bl s) _ _ w hS he.uv).mono ?_
    rintro e w1 ⟨⟨A, c, rfl, hr⟩, hbel⟩
    rw [hS.d2] at hr
    exact ⟨⟨_, _, _, rfl, hr⟩, hbel⟩

end Go.Proofs.YtgjocdnpephcgaaGreatDoor
namespace Go.Proofs.YtgjocdnpephcgaaGreatDoor
open Go.RowKit

def nrSt (w W1 : World) (f : Nat → Bool) : World := if f 8 then W1 else w
theorem nrSt0 {w W1 : World} {f : Nat → Bool} (h : f 8 = false) : nrSt w W1 f = w := by simp [nrSt, h]
theorem nrSt_upd {w W1 : World} {f : Nat → Bool} {i : Nat} (h : i ≠ 8) : nrSt w W1 f = nrSt w W1 (fun j => if j = i then true else f j) := by
  have h8 : ¬ 8 = i := fun e => h e.symm
  simp only [nrSt, if_neg h8]
/-- What the operations of newRecordFromCid's last line leave. -/
def nrV (gd : Nat) (A : Option Addr) (n c : Nat) (S : ByteArray) (off : Nat) (i : Nat) : Value :=
  match i with
  | 0 => .pointer (some ⟨gd, 0, none⟩)
  | 1 => .pointer (some ⟨gd, 0, none⟩)
  | 2 => .pointer (some ⟨gd, 3, none⟩)
  | 3 => .slice A n c
  | 4 => .agg #[.string S]
  | 5 => .int .u64 off
  | 6 => .agg #[.string S, .int .u64 off]
  | 7 => .agg #[.slice A n c, .string S, .int .u64 off]
  | _ => undef

set_option maxHeartbeats 8000000 in
set_option maxRecDepth 100000 in
/-- index.newRecordFromCid. -/
theorem newRec_calls (v codec code off : Nat) (s : ByteArray) (w : World) (h : Tidy v codec code s) (hs : s.size ≤ 1073741824) (he : MhErrs w) :
    Calls Tryz.prog 46 #[.agg #[.string (strB (cidB v codec code s))], .int .u64 off] w fun e w' => (∃ A c, e = .returned (.agg #[.slice A (bl s).length c, .string (strB (cidB v codec code s)), .int .u64 off]) ∧ RdB w' A (bl s).length c (bl s)) ∧ Below w.heap.size w w' := by
  have HH := Kp.mk (fun w he => tHash_calls v codec code s w h hs he)
  have hl := bl_length s
  have hmh : mhRead (mhBytes code (bl s)) = some (code, bl s, (mhBytes code (bl s)).length) := by
    have := mhRead_mhBytes (code := code) (d := bl s) [] (by rcases h with ⟨_, _, rfl, _⟩ | ⟨_, _, h⟩ <;> omega) (by omega)
    rwa [List.append_nil] at this
  have hmn : (mhBytes code (bl s)).length ≤ 2147483647 := by
    have a := Lib.uvarint_length64 (x := code) (by rcases h with ⟨_, _, rfl, _⟩ | ⟨_, _, h⟩ <;> omega)
    have b := Lib.uvarint_length64 (x := (bl s).length) (by omega)
    simp only [mhBytes, List.length_append]
    omega
  have HM := Kp.mk (And.intro hmh hmn)
  have HE := Kp.mk he
  clear hmh hmn he h
  generalize strB (cidB v codec code s) = S at *
  go_enter Tryz.func46, Tryz.ntmps46
  go_wp2_with fail
  have HB0 := Kp.mk (fun o o2 => bel_alloc (bel_alloc (Below.refl w.heap.size w) o) o2)
  refine (HH.out _ (HE.out.below (HB0.out _ _))).mono ?_
  rintro e w1 ⟨⟨A, n, c, rfl, hr⟩, hb⟩
  have hn := hr.len
  have HB1 := Kp.mk (bel_then (HB0.out _ _) hb)
  have HK1 := Kp.mk (blk_keep (blk_new (w := w) (bel_alloc (Below.refl _ _) _)) hb)
  have HR1 := Kp.mk (blk_new2 (w := w) hb)
  have HD := Kp.mk (decodeP_calls A n c _ w1 hr (HE.out.below HB1.out) (by have := HM.out.2; omega))
  have HA := Kp.mk hr
  clear hb hr HH HB0
  go_wp2_with fail
  refine HD.out.mono ?_
  rintro e w2 ⟨hu, hb⟩
  unfold DdEnd at hu
  rw [HM.out.1] at hu
  simp only [if_true] at hu
  obtain ⟨gd, A', c', rfl, hgd, hblk, hp⟩ := hu
  have HB2 := Kp.mk (bel_then HB1.out hb)
  have HK2 := Kp.mk (blk_keep HK1.out hb)
  have HR2 := Kp.mk (blk_keep HR1.out hb)
  have HG2 := Kp.mk hblk
  have HA2 := Kp.mk (hp w2 (HA.out.below hb))
  clear hb hblk hp HD HA HK1 HR1 HB1 hn
  have hsz1 : w.heap.size + 1 < w2.heap.size := (Array.getElem?_eq_some_iff.1 HR2.out).1
  go_wp2_with fail
  obtain ⟨U0, hU0⟩ : ∃ W, W = w2.drew := ⟨_, rfl⟩
  obtain ⟨U1, hU1⟩ : ∃ W, W = ((U0.setCell ⟨w.heap.size + 1, 0, none⟩ (.slice A' (bl s).length c')).setCell ⟨w.heap.size + 1, 1, none⟩ (.string S)).setCell ⟨w.heap.size + 1, 2, none⟩ (.int .u64 off) := ⟨_, rfl⟩
  have HU0 := Kp.mk hU0
  have HU1 := Kp.mk hU1
  have HK3 : Kp (U0.heap[w.heap.size]? = some (.cells #[.string S] 45 (0, 0))) := ⟨by rw [hU0]; exact HK2.out⟩
  have HR3 : Kp (U0.heap[w.heap.size + 1]? = some (.cells #[.slice none 0 0, .string ⟨#[]⟩, .int .u64 0] 90 (0, 0))) := ⟨by rw [hU0]; exact HR2.out⟩
  have HG3 : Kp (U0.heap[gd]? = some (.cells #[.int .u64 code, .string ⟨#[]⟩, .int .i64 (bl s).length, .slice A' (bl s).length c'] 109 (0, 0))) := ⟨by rw [hU0]; exact HG2.out⟩
  have HV : Kp (U1.heap[w.heap.size + 1]? = some (.cells #[.slice A' (bl s).length c', .string S, .int .u64 off] 90 (0, 0))) := ⟨by rw [hU1]; exact blk_set (blk_set (blk_set HR3.out 0 _) 1 _) 2 _⟩
  have HB3 : Kp (Below w.heap.size w U1) := ⟨by rw [hU1, hU0]; exact bel_set (p := ⟨w.heap.size + 1, 2, none⟩) (bel_set (p := ⟨w.heap.size + 1, 1, none⟩) (bel_set (p := ⟨w.heap.size + 1, 0, none⟩) (bel_drew HB2.out) (Nat.le_succ _) _) (Nat.le_succ _) _) (Nat.le_succ _) _⟩
  have HA3 : Kp (RdB U1 A' (bl s).length c' (bl s)) := ⟨HA2.out.exN (P := fun k => k = w.heap.size + 1) (by rw [hU1, hU0]; exact Ex.setCell (P := fun k => k = w.heap.size + 1) (p := ⟨w.heap.size + 1, 2, none⟩) (Ex.setCell (P := fun k => k = w.heap.size + 1) (p := ⟨w.heap.size + 1, 1, none⟩) (Ex.setCell (P := fun k => k = w.heap.size + 1) (p := ⟨w.heap.size + 1, 0, none⟩) ((Ex.refl _ w2).drewN 1) rfl _) rfl _) rfl _) (fun k hk => by subst hk; exact ⟨_, _, HR2.out, fun i z => by rcases i with _ | _ | _ | i <;> simp⟩)⟩
  clear hU0 hU1
  refine wp_region_growS (by kernel_rfl) 9 (by kernel_rfl) (nrV gd A' (bl s).length c' S off) (nrSt U0 U1) HU0.out.symm (apart_of (by kernel_rfl)) (by kernel_rfl) ?_ ?_
  · intro i hi ob ho f vs hfi hn hpre hw
    rcases i with _ | _ | _ | _ | _ | _ | _ | _ | _ | i
    · clear hn hpre hw
      obtain rfl := Option.some.inj ho
      simp only [canon, List.range, List.range.loop, List.foldl]
      go_simp
      exact ⟨rfl, nrSt_upd (i := 0) (by decide)⟩
    · have e0 : vs 0 = _ := hpre 0 (by decide) (by obtain rfl := Option.some.inj ho; rfl)
      simp only [nrV] at e0
      clear hn hpre hw
      obtain rfl := Option.some.inj ho
      simp only [canon, List.range, List.range.loop, List.foldl]
      go_simp
      exact ⟨rfl, nrSt_upd (i := 1) (by decide)⟩
    · have e1 : vs 1 = _ := hpre 1 (by decide) (by obtain rfl := Option.some.inj ho; rfl)
      simp only [nrV] at e1
      clear hn hpre hw
      obtain rfl := Option.some.inj ho
      simp only [canon, List.range, List.range.loop, List.foldl]
      go_simp
      exact ⟨rfl, nrSt_upd (i := 2) (by decide)⟩
    · have e2 : vs 2 = _ := hpre 2 (by decide) (by obtain rfl := Option.some.inj ho; rfl)
      simp only [nrV] at e2
      have h8 : f 8 = false := hn 8 _ rfl (by kernel_rfl)
      rw [nrSt0 h8]
      have c3 := blk_cell HG3.out 3
      clear hn hpre hw
      obtain rfl := Option.some.inj ho
      simp only [canon, List.range, List.range.loop, List.foldl]
      go_simp
      exact ⟨rfl, (nrSt0 h8).symm.trans (nrSt_upd (i := 3) (by decide))⟩
    · have h8 : f 8 = false := hn 8 _ rfl (by kernel_rfl)
      rw [nrSt0 h8]
      have c0 := blk_cell HK3.out 0
      clear hn hpre hw
      obtain rfl := Option.some.inj ho
      simp only [canon, List.range, List.range.loop, List.foldl]
      go_simp
      exact ⟨rfl, (nrSt0 h8).symm.trans (nrSt_upd (i := 4) (by decide))⟩
    · clear hn hpre hw
      obtain rfl := Option.some.inj ho
      simp only [canon, List.range, List.range.loop, List.foldl]
      go_simp
      exact ⟨rfl, nrSt_upd (i := 5) (by decide)⟩
    · have e4 : vs 4 = _ := hpre 4 (by decide) (by obtain rfl := Option.some.inj ho; rfl)
      have e5 : vs 5 = _ := hpre 5 (by decide) (by obtain rfl := Option.some.inj ho; rfl)
      simp only [nrV] at e4 e5
      clear hn hpre hw
      obtain rfl := Option.some.inj ho
      simp only [canon, List.range, List.range.loop, List.foldl]
      go_simp
      exact ⟨rfl, nrSt_upd (i := 6) (by decide)⟩
    · have e3 : vs 3 = _ := hpre 3 (by decide) (by obtain rfl := Option.some.inj ho; rfl)
      have e6 : vs 6 = _ := hpre 6 (by decide) (by obtain rfl := Option.some.inj ho; rfl)
      simp only [nrV] at e3 e6
      clear hn hpre hw
      obtain rfl := Option.some.inj ho
      simp only [canon, List.range, List.range.loop, List.foldl]
      go_simp
      exact ⟨rfl, nrSt_upd (i := 7) (by decide)⟩
    · have e7 : vs 7 = _ := hpre 7 (by decide) (by obtain rfl := Option.some.inj ho; rfl)
      simp only [nrV] at e7
      rw [nrSt0 hfi]
      have c0 := blk_cell HR3.out 0
      have c1 := blk_cell HR3.out 1
      have c2 := blk_cell HR3.out 2
      have f0 := blk_frozen HR3.out 0
      have f1 := blk_frozen HR3.out 1
      have f2 := blk_frozen HR3.out 2
      clear hn hpre hw
      obtain rfl := Option.some.inj ho
      simp only [canon, List.range, List.range.loop, List.foldl]
      go_simp
      exact HU1.out.symm
    · omega
  · intro vs hvs
    change wpAny _ _ _ _ _ _ _ U1
    clear hvs
    refine wpAny_none (by kernel_rfl) ?_ _
    generalize hA : canon _ _ vs 9 = FR
    have h4 : FR.tmps[4]? = some (.pointer (some ⟨w.heap.size + 1, 0, none⟩)) := by rw [← hA, canon_keep _ (by kernel_rfl)]; rfl
    have hD : FR.defers = [] := by rw [← hA, canon_defers]
    clear hA
    go_wp2
    refine bodyPost_ret (res_cell1 rfl _ _ (w.heap.size + 1) 90 #[.slice A' (bl s).length c', .string S, .int .u64 off] _ (by rw [Array.getD_eq_getD_getElem?, h4]; rfl) HV.out Tryz.underlying90 rfl (by kernel_rfl)) hD ?_
    exact ⟨⟨A', c', rfl, HA3.out⟩, HB3.out⟩

/-- What an item says, but for where its digest lies. -/
def Itm.key (x : Itm) : List UInt8 × ByteArray × Nat := (x.ds, x.S, x.off)
def insK (x : List UInt8 × ByteArray × Nat) : List (List UInt8 × ByteArray × Nat) → List (List UInt8 × ByteArray × Nat)
  | [] => [x]
  | y :: L => if dLt x.1 y.1 then x :: y :: L else y :: insK x L
theorem ins_key (x : Itm) : ∀ L : List Itm, (ins x L).map Itm.key = insK x.key (L.map Itm.key)
  | [] => rfl
  | y :: L => by
    simp only [ins, List.map_cons, insK]
    rw [show x.key.1 = x.ds from rfl, show y.key.1 = y.ds from rfl]
    split
    · simp
    · simp [ins_key x L]
/-- Block g holds an index of entries that say this. -/
def OwnK (B : Nat) (w : World) (g : Nat) (K : List (List UInt8 × ByteArray × Nat)) : Prop := ∃ L, Own B w g L ∧ L.map Itm.key = K
theorem OwnK.below {B g : Nat} {w w1 : World} {K : List (List UInt8 × ByteArray × Nat)} (h : OwnK B w g K) (hb : Below w.heap.size w w1) : OwnK B w1 g K := by
  obtain ⟨L, h1, h2⟩ := h
  exact ⟨L, h1.below hb, h2⟩

/-- What the operations of InsertNoReplace's line leave. -/
def inR (g : Nat) (S : ByteArray) (off : Nat) (ds : List UInt8) (j : Nat) (v : Value) (w : World) : Prop :=
  match j with
  | 3 => v = .agg #[.string S]
  | 4 => v = .int .u64 off
  | 5 => ∃ A c, v = .agg #[.slice A ds.length c, .string S, .int .u64 off] ∧ RdB w A ds.length c ds
  | 6 => ∃ A c, v = .iface 90 (.agg #[.slice A ds.length c, .string S, .int .u64 off]) ∧ RdB w A ds.length c ds
  | 0 => v = .pointer (some ⟨g, 0, none⟩)
  | 1 => v = .pointer (some ⟨g, 0, none⟩)
  | 2 => v = .pointer (some ⟨g, 0, none⟩)
  | _ => True
theorem inR_keep {g : Nat} {S : ByteArray} {off : Nat} {ds : List UInt8} (j : Nat) (v : Value) (w w' : World) (h : inR g S off ds j v w) (hb : Below w.heap.size w w') : inR g S off ds j v w' := by
  unfold inR at *
  split at h
  · exact h
  · exact h
  · obtain ⟨A, c, e, h⟩ := h; exact ⟨A, c, e, h.below hb⟩
  · obtain ⟨A, c, e, h⟩ := h; exact ⟨A, c, e, h.below hb⟩
  · exact h
  · exact h
  · exact h
  · trivial

set_option maxHeartbeats 8000000 in
set_option maxRecDepth 100000 in
/-- (*index.InsertionIndex).InsertNoReplace of a tidy identifier. -/
theorem ixIns_calls (B g : Nat) (v codec code off : Nat) (s : ByteArray) (K : List (List UInt8 × ByteArray × Nat)) (w : World) (hO : OwnK B w g K) (hl : K.length ≤ 1000) (h : Tidy v codec code s) (hs : s.size ≤ 1073741824) (hB : B ≤ w.heap.size) (he : MhErrs w) :
    Calls Tryz.prog 24 #[.pointer (some ⟨g, 0, none⟩), .agg #[.string (strB (cidB v codec code s))], .int .u64 off] w fun e w' => e = .returned (.tuple #[]) ∧ OwnK B w' g (insK (bl s, strB (cidB v codec code s), off) K) ∧ Below B w w' := by
  have HN := Kp.mk (fun w he => newRec_calls v codec code off s w h hs he)
  have HE := Kp.mk he
  have HO := Kp.mk hO
  have HX := Kp.mk (And.intro hl hB)
  generalize strB (cidB v codec code s) = S at *
  have hbl : ∃ ds, ds = bl s := ⟨_, rfl⟩
  obtain ⟨ds, hds⟩ := hbl
  rw [← hds] at HN ⊢
  clear he hO hl hB h hs hds
  go_enter Tryz.func24, Tryz.ntmps24
  go_wp2_with fail
  have hk := blk_new (w := w) (o := .cells #[.string S] 45) (Below.refl _ _)
  have hb0 := bel_alloc (Below.refl w.heap.size w) (.cells #[.string S] 45)
  generalize w.alloc _ = w1 at *
  have HK := Kp.mk hk
  have HB0 := Kp.mk hb0
  clear hk hb0
  refine wp_region_growR (fun u u' => Below u.heap.size u u') (fun _ => Below.refl _ _) (fun _ _ _ h k => bel_then h k) (by kernel_rfl) 7 (by decide) (apart_of (by kernel_rfl)) (by kernel_rfl) (inR g S off ds) (fun _ _ _ _ => True) inR_keep ?_ ?_
  · intro j hj ob ho vs w5 hb5 hpre
    have HB5 := Kp.mk (bel_then HB0.out (bel_then (bel_drew (Below.refl _ _)) hb5))
    have HK5 := Kp.mk (blk_keep HK.out (bel_then (bel_drew (Below.refl _ _)) hb5))
    rcases j with _ | _ | _ | _ | _ | _ | _ | j
    · obtain rfl := Option.some.inj ho
      simp only [canon, List.range, List.range.loop, List.foldl]
      go_simp
      exact ⟨rfl, Below.refl _ _⟩
    · have e0 : vs 0 = _ := hpre 0 (by decide) (by obtain rfl := Option.some.inj ho; rfl)
      obtain rfl := Option.some.inj ho
      simp only [canon, List.range, List.range.loop, List.foldl]
      go_simp
      exact ⟨rfl, Below.refl _ _⟩
    · have e1 : vs 1 = _ := hpre 1 (by decide) (by obtain rfl := Option.some.inj ho; rfl)
      obtain rfl := Option.some.inj ho
      simp only [canon, List.range, List.range.loop, List.foldl]
      go_simp
      exact ⟨rfl, Below.refl _ _⟩
    · have c0 := blk_cell HK5.out 0
      obtain rfl := Option.some.inj ho
      simp only [canon, List.range, List.range.loop, List.foldl]
      go_simp
      exact ⟨rfl, Below.refl _ _⟩
    · obtain rfl := Option.some.inj ho
      simp only [canon, List.range, List.range.loop, List.foldl]
      go_simp
      exact ⟨rfl, Below.refl _ _⟩
    · have e3 : vs 3 = _ := hpre 3 (by decide) (by obtain rfl := Option.some.inj ho; rfl)
      have e4 : vs 4 = _ := hpre 4 (by decide) (by obtain rfl := Option.some.inj ho; rfl)
      obtain rfl := Option.some.inj ho
      simp only [canon, List.range, List.range.loop, List.foldl]
      go_simp
      refine (HN.out w5 (HE.out.below HB5.out)).mono ?_
      rintro e6 w6 ⟨⟨A, c, rfl, hr⟩, hb6⟩
      exact ⟨⟨A, c, rfl, hr⟩, hb6⟩
    · obtain ⟨A, c, e5, hr⟩ := hpre 5 (by decide) (by obtain rfl := Option.some.inj ho; rfl)
      obtain rfl := Option.some.inj ho
      simp only [canon, List.range, List.range.loop, List.foldl]
      go_simp
      exact ⟨⟨A, c, rfl, hr⟩, Below.refl _ _⟩
    · omega
  · intro vs w5 hb5 hr _
    have e2 : vs 2 = _ := hr 2 (by omega)
    obtain ⟨A, c, e6, hrd⟩ := hr 6 (by omega)
    have HB5 := Kp.mk (bel_then HB0.out (bel_then (bel_drew (Below.refl _ _)) hb5))
    obtain ⟨L, hL, hK⟩ := HO.out.below HB5.out
    have hlen : L.length ≤ 1000 := by rw [← L.length_map (f := Itm.key), hK]; exact HX.out.1
    have HI := insTop_calls B g ⟨A, c, ds, S, off⟩ L w5 hL (fun x hx => by simp at hx; subst hx; exact hrd) hlen
    unfold Itm.val at HI
    simp only at HI
    have HI := Kp.mk HI
    have HKK : Kp (∀ W, Own B W g (ins ⟨A, c, ds, S, off⟩ L) → OwnK B W g (insK (ds, S, off) K)) := ⟨fun W h => ⟨_, h, by rw [ins_key, hK]; rfl⟩⟩
    have HF : Kp (Below B w w5) := ⟨HB5.out.mono HX.out.2⟩
    clear hb5 hr hrd hlen hL hK
    simp only [canon, List.range, List.range.loop, List.foldl]
    refine wpAny_last 7 (by kernel_rfl) ?_
    refine wpOp_go rfl rfl ?_
    go_simp
    refine HI.out.mono ?_
    rintro e w6 ⟨rfl, ho, hb, _⟩
    have HR := Kp.mk (And.intro (HKK.out _ ho) (HF.out.trans hb))
    clear ho hb HI HKK HF
    simp only
    refine wpAny_none (by kernel_rfl) ?_ _
    go_wp2
    go_end0
    exact ⟨rfl, HR.out⟩

end Go.Proofs.YtgjocdnpephcgaaGreatDoor
namespace Go.Proofs.YtgjocdnpephcgaaGreatDoor
open Go.RowKit

/-- An entry. -/
structure Ent where
  v : Nat
  codec : Nat
  code : Nat
  s : ByteArray
  off : Nat
def Ent.cid (e : Ent) : Value := .agg #[.int .u64 e.v, .int .u64 e.codec, .int .u64 e.code, .string e.s]
def Ent.cell (e : Ent) (j : Nat) : Value :=
  match j with
  | 0 => .int .u64 e.v
  | 1 => .int .u64 e.codec
  | 2 => .int .u64 e.code
  | 3 => .string e.s
  | _ => .int .u64 e.off
def Ent.key (e : Ent) : List UInt8 × ByteArray × Nat := (bl e.s, strB (cidB e.v e.codec e.code e.s), e.off)
/-- It is tidy, and its digest has a length of 1 to 200. -/
def Ent.ok (e : Ent) : Prop := Tidy e.v e.codec e.code e.s ∧ 0 < e.s.size ∧ e.s.size ≤ 200
def keysOf (es : List Ent) : List (List UInt8 × ByteArray × Nat) := es.foldl (fun K e => insK e.key K) []
theorem insK_length (x : List UInt8 × ByteArray × Nat) : ∀ L, (insK x L).length = L.length + 1
  | [] => rfl
  | y :: L => by
    unfold insK
    split
    · rfl
    · simp [insK_length x L]
theorem keysOf_length (es : List Ent) : (keysOf es).length = es.length := by
  have h : ∀ (es : List Ent) K, (es.foldl (fun K e => insK e.key K) K).length = K.length + es.length := fun es => by
    induction es with
    | nil => intro K; rfl
    | cons e es ih => intro K; rw [List.foldl_cons, ih, insK_length]; simp; omega
  have := h es []
  rw [show keysOf es = es.foldl (fun K e => insK e.key K) [] from rfl, this]
  simp
theorem keysOf_succ (es : List Ent) (i : Nat) (h : i < es.length) : keysOf (es.take (i + 1)) = insK es[i].key (keysOf (es.take i)) := by
  unfold keysOf
  rw [List.take_succ_eq_append_getElem h, List.foldl_append]
  rfl

/-- A slice that reads as these entries. -/
structure RdE (w : World) (A : Option Addr) (n c : Nat) (es : List Ent) : Prop where
  len : es.length = n
  cap : n ≤ c
  most : c ≤ 9223372036854775807
  lies : 0 < n → ∃ g o, A = some ⟨g, o, none⟩ ∧ ∀ i (h : i < es.length) j, j < 5 → w.cell? ⟨g, o + i * 5 + j, none⟩ = some (es[i].cell j)
theorem RdE.below {w w1 : World} {A : Option Addr} {n c : Nat} {es : List Ent} (h : RdE w A n c es) (hb : Below w.heap.size w w1) : RdE w1 A n c es :=
  ⟨h.len, h.cap, h.most, fun h0 => by
    obtain ⟨g, o, e, hc⟩ := h.lies h0
    exact ⟨g, o, e, fun i hi j hj => cell_bel hb (hc i hi j hj)⟩⟩

set_option maxHeartbeats 400000 in
theorem mkIx_calls (w : World) :
    Calls Tryz.prog 23 #[] w fun e w' => e = .returned (.pointer (some ⟨w.heap.size, 0, none⟩)) ∧ w' = w.alloc (.cells #[.int .i64 0, .pointer none] 85) := by
  go_enter Tryz.func23, Tryz.ntmps23
  go_wp2
  go_ret
  exact ⟨rfl, rfl⟩

set_option maxHeartbeats 4000000 in
set_option maxRecDepth 100000 in
/-- impl.insertion. -/
theorem insertion_calls (A : Option Addr) (n c : Nat) (es : List Ent) (w : World) (hr : RdE w A n c es) (hok : ∀ e ∈ es, e.ok) (hn : n ≤ 1000) (he : MhErrs w) :
    Calls Tryz.prog 15 #[.slice A n c] w fun e w' => ∃ g, e = .returned (.tuple #[.pointer (some ⟨g, 0, none⟩), .bool true]) ∧ OwnK w.heap.size w' g (keysOf es) ∧ Below w.heap.size w w' := by
  have HR := Kp.mk hr
  have HK := Kp.mk hok
  have HE := Kp.mk he
  have hlen := Kp.mk hr.len
  clear hr hok he
  go_enter Tryz.func15, Tryz.ntmps15
  go_wp2_with fail
  refine (mkIx_calls w).mono ?_
  rintro e w1 ⟨rfl, hw1⟩
  have HB0 : Kp (Below w.heap.size w w1) := ⟨by rw [hw1]; exact bel_alloc (Below.refl _ _) _⟩
  have HO0 : Kp (OwnK w.heap.size w1 w.heap.size []) := ⟨⟨[], ⟨.nil, by rw [hw1]; exact blk_new (Below.refl _ _), trivial, by simp [LT.blks], rfl, List.Pairwise.nil, fun x hx => by simp at hx, Nat.le_refl _, fun b hb => by simp [LT.blks] at hb, by simp [LT.blks]⟩, rfl⟩⟩
  clear hw1
  go_wp2_with fail
  go_loopw [12] (fun vi wr => ∃ i : Nat, vi = .int .i64 (i : Int) ∧ i ≤ n ∧ Kp (OwnK w.heap.size wr w.heap.size (keysOf (es.take i)) ∧ Below w.heap.size w wr))
    (fun vi _ => n - (match vi with | .int _ z => z.toNat | _ => 0))
  case atStart => exact ⟨0, rfl, Nat.zero_le _, ⟨HO0.out, HB0.out⟩⟩
  case round =>
    obtain ⟨i, rfl, hi, HI⟩ := hrel
    by_cases hin : i < n
    · have hil : i < es.length := by rw [hlen.out]; exact hin
      obtain ⟨gE, o, rfl, hc⟩ := (HR.out.below HI.out.2).lies (by omega)
      have c0 := hc i hil 0 (by omega)
      have c1 := hc i hil 1 (by omega)
      have c2 := hc i hil 2 (by omega)
      have c3 := hc i hil 3 (by omega)
      have c4 := hc i hil 4 (by omega)
      have hsucc := Kp.mk (keysOf_succ es i hil)
      obtain ⟨E, hE⟩ : ∃ E, E = es[i] := ⟨_, rfl⟩
      rw [← hE] at c0 c1 c2 c3 c4 hsucc
      have hEok : E.ok := by rw [hE]; exact HK.out _ (List.getElem_mem hil)
      simp only [Ent.cell, Nat.add_zero] at c0 c1 c2 c3 c4
      clear hc hE
      have HC := Kp.mk (fun w he => cidIn_calls E.v E.codec E.code E.s w hEok.1 (by have := hEok.2.2; omega) he)
      have HB1 := Kp.mk (fun o => bel_then HI.out.2 (bel_alloc (Below.refl wr.heap.size wr) o))
      have HOK := Kp.mk hEok
      clear hEok
      go_wp2_with fail
      refine (HC.out _ (HE.out.below (HB1.out _))).mono ?_
      rintro e w2 ⟨rfl, hb⟩
      have HB2 := Kp.mk (bel_then (HB1.out _) hb)
      have HG2 := Kp.mk (blk_new hb)
      have HO2 := Kp.mk (HI.out.1.below (bel_new hb))
      clear hb HC HB1
      have d4 := fun o => blk_cell (blk_keep HG2.out (bel_alloc (Below.refl _ _) o)) 4
      go_wp2_with fail
      have HB3 := Kp.mk (fun o => bel_alloc HB2.out o)
      refine (ixIns_calls w.heap.size w.heap.size E.v E.codec E.code E.off E.s (keysOf (es.take i)) _ (HO2.out.below (bel_alloc (Below.refl _ _) _)) (by rw [keysOf_length, List.length_take]; omega) HOK.out.1 (by have := HOK.out.2.2; omega) (HB3.out _).size (HE.out.below (HB3.out _))).mono ?_
      rintro e w4 ⟨rfl, ho, hb⟩
      have HI4 := Kp.mk (And.intro ho ((HB3.out _).trans hb))
      clear ho hb HB3 d4 c0 c1 c2 c3 c4
      go_wp2_with fail
      go_roundw
      case rel => exact ⟨i + 1, by simp, by omega, ⟨by rw [hsucc.out]; exact HI4.out.1, HI4.out.2⟩⟩
      case measure => simp; omega
    · have hin' : i = n := by omega
      subst hin'
      have HF : Kp (keysOf (es.take i) = keysOf es) := ⟨by rw [List.take_of_length_le (by rw [hlen.out]; exact Nat.le_refl _)]⟩
      go_wp2_with fail
      go_ret2
      exact ⟨_, rfl, by rw [← HF.out]; exact HI.out.1, HI.out.2⟩

end Go.Proofs.YtgjocdnpephcgaaGreatDoor
