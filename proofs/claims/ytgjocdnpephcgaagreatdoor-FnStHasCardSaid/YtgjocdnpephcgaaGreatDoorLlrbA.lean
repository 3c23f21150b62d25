/- Some texts in one: Llrb, LlrbF, LlrbW. -/
import Derived.Test.YtgjocdnpephcgaaGreatDoorGrowS
import Derived.Test.YtgjocdnpephcgaaGreatDoorReadNode
import Derived.Deep.DeepCutAuto
import Derived.Deep.CutRange
namespace Go.Proofs.YtgjocdnpephcgaaGreatDoor
open Go.RowKit

/-- An item of the tree: a digest and where it lies, an identifier's bytes, an offset. -/
structure Itm where
  A : Option Addr
  c : Nat
  ds : List UInt8
  S : ByteArray
  off : Nat
def Itm.val (x : Itm) : Value := .iface 90 (.agg #[.slice x.A x.ds.length x.c, .string x.S, .int .u64 x.off])

/-- A tree. -/
inductive LT where
  | nil
  | node (b : Nat) (x : Itm) (k : Bool) (l r : LT)
def LT.ptr : LT → Value
  | .nil => .pointer none
  | .node b _ _ _ _ => .pointer (some ⟨b, 0, none⟩)
theorem LT.ptr_node (b : Nat) (x : Itm) (k : Bool) (l r : LT) : (LT.node b x k l r).ptr = .pointer (some ⟨b, 0, none⟩) := rfl
theorem LT.ptr_some (T : LT) : ∃ u, T.ptr = .pointer u := by cases T <;> exact ⟨_, rfl⟩
def LT.red : LT → Bool
  | .nil => false
  | .node _ _ k _ _ => !k
def nodeCs (x : Itm) (k : Bool) (l r : LT) : Array Value := #[x.val, l.ptr, r.ptr, .bool k]
/-- It lies in memory. -/
def LT.In (w : World) : LT → Prop
  | .nil => True
  | .node b x k l r => w.heap[b]? = some (.cells (nodeCs x k l r) 122 (0, 0)) ∧ l.In w ∧ r.In w
def LT.blks : LT → List Nat
  | .nil => []
  | .node b _ _ l r => b :: (l.blks ++ r.blks)
def LT.items : LT → List Itm
  | .nil => []
  | .node _ x _ l r => l.items ++ x :: r.items
theorem LT.In.keep {w w' : World} : ∀ {T : LT}, T.In w → (∀ b ∈ T.blks, w'.heap[b]? = w.heap[b]?) → T.In w'
  | .nil, _, _ => trivial
  | .node b x k l r, ⟨h1, h2, h3⟩, h => ⟨(h b (by simp [LT.blks])).trans h1, h2.keep fun c hc => h c (by simp [LT.blks, hc]), h3.keep fun c hc => h c (by simp [LT.blks, hc])⟩
theorem LT.In.lt {w : World} : ∀ {T : LT}, T.In w → ∀ b ∈ T.blks, b < w.heap.size
  | .nil, _, b, hb => by simp [LT.blks] at hb
  | .node b x k l r, ⟨h1, h2, h3⟩, c, hc => by
    simp only [LT.blks, List.mem_cons, List.mem_append] at hc
    rcases hc with rfl | hc | hc
    · exact (Array.getElem?_eq_some_iff.1 h1).1
    · exact h2.lt c hc
    · exact h3.lt c hc
theorem LT.In.ex {P : Nat → Prop} {w w' : World} {T : LT} (h : T.In w) (hb : Ex P w w') (hp : ∀ b ∈ T.blks, ¬ P b) : T.In w' := h.keep fun b hm => hb.block b (h.lt b hm) (hp b hm)
theorem LT.In.below {w w' : World} {T : LT} (h : T.In w) (hb : Below w.heap.size w w') : T.In w' := h.keep fun b hm => hb.block b (h.lt b hm)
/-- No byte lies in a node. -/
theorem LT.In.no_u8 {w : World} : ∀ {T : LT}, T.In w → ∀ b ∈ T.blks, ∃ cs t, w.heap[b]? = some (.cells cs t (0, 0)) ∧ ∀ (i : Nat) (z : Int), cs[i]? ≠ some (Value.int .u8 z)
  | .nil, _, b, hb => by simp [LT.blks] at hb
  | .node b x k l r, ⟨h1, h2, h3⟩, c, hc => by
    simp only [LT.blks, List.mem_cons, List.mem_append] at hc
    rcases hc with rfl | hc | hc
    · refine ⟨_, _, h1, fun i z => ?_⟩
      obtain ⟨u, hu⟩ := l.ptr_some
      obtain ⟨u', hu'⟩ := r.ptr_some
      rcases i with _ | _ | _ | _ | i <;> simp [nodeCs, Itm.val, hu, hu']
    · exact h2.no_u8 c hc
    · exact h3.no_u8 c hc

/-- One tree became another: through its own blocks and new ones. -/
structure Turn (w w' : World) (T T' : LT) : Prop where
  inn : T'.In w'
  nd : T'.blks.Nodup
  blks : ∀ b ∈ T'.blks, b ∈ T.blks ∨ w.heap.size ≤ b
  ex : Ex (· ∈ T.blks) w w'
theorem Turn.refl {w : World} {T : LT} (h : T.In w) (hn : T.blks.Nodup) : Turn w w T T := ⟨h, hn, fun _ h => .inl h, Ex.refl _ _⟩
theorem Turn.trans {a b c : World} {T T1 T2 : LT} (h : Turn a b T T1) (k : Turn b c T1 T2) : Turn a c T T2 :=
  ⟨k.inn, k.nd, fun j hj => (k.blks j hj).elim (h.blks j) (fun x => .inr (Nat.le_trans h.ex.size x)), h.ex.ext k.ex fun j hj hm => (h.blks j hm).elim id (fun x => absurd hj (by omega))⟩
theorem Turn.below {a b c : World} {T T1 : LT} (h : Turn a b T T1) (k : Below b.heap.size b c) : Turn a c T T1 :=
  h.trans ⟨h.inn.below k, h.nd, fun _ h => .inl h, Ex.of_below k⟩

set_option maxHeartbeats 400000 in
/-- isRed. -/
theorem isRed_calls (T : LT) (w : World) (h : T.In w) :
    Calls Tryz.prog 90 #[T.ptr] w fun e w' => e = .returned (.bool T.red) ∧ w = w' := by
  cases T with
  | nil =>
    show Calls Tryz.prog 90 #[.pointer none] w _
    go_enter Tryz.func90, Tryz.ntmps90
    go_wp2
    go_ret
    exact ⟨rfl, rfl⟩
  | node b x k l r =>
    have c3 := blk_cell h.1 3
    simp only [nodeCs] at c3
    clear h
    show Calls Tryz.prog 90 #[.pointer (some ⟨b, 0, none⟩)] w _
    go_enter Tryz.func90, Tryz.ntmps90
    go_wp2
    go_ret
    exact ⟨rfl, rfl⟩

theorem nodup_node {b : Nat} {x : Itm} {k : Bool} {l r : LT} (h : (LT.node b x k l r).blks.Nodup) : b ∉ l.blks ∧ b ∉ r.blks ∧ l.blks.Nodup ∧ r.blks.Nodup ∧ ∀ c ∈ l.blks, c ∉ r.blks := by
  simp only [LT.blks, List.nodup_cons, List.mem_append, not_or, List.nodup_append] at h
  exact ⟨h.1.1, h.1.2, h.2.1, h.2.2.1, fun c hc hr => h.2.2.2 c hc c hr rfl⟩

set_option maxHeartbeats 1000000 in
/-- rotateLeft. -/
theorem rotL_calls (b : Nat) (x : Itm) (k : Bool) (o : LT) (c : Nat) (y : Itm) (p q : LT) (w : World) (h : (LT.node b x k o (.node c y false p q)).In w) (hn : (LT.node b x k o (.node c y false p q)).blks.Nodup) :
    Calls Tryz.prog 91 #[.pointer (some ⟨b, 0, none⟩)] w fun e w' => e = .returned (.pointer (some ⟨c, 0, none⟩)) ∧ Turn w w' (LT.node b x k o (.node c y false p q)) (LT.node c y k (.node b x false o p) q) := by
  obtain ⟨h1, h2, h3, h4, h5⟩ := h
  obtain ⟨n1, n2, n3, n4, n5'⟩ := nodup_node hn
  have n5 : ∀ j ∈ o.blks, j ∉ (LT.node c y false p q).blks := n5'
  obtain ⟨m1, m2, m3, m4, m5⟩ := nodup_node n4
  simp only [LT.blks, List.mem_cons, List.mem_append, not_or] at n2
  have hbc : b ≠ c := n2.1
  have hcb : c ≠ b := fun e => hbc e.symm
  have hbp : b ∉ p.blks := n2.2.1
  have hbq : b ∉ q.blks := n2.2.2
  obtain ⟨ul, hul⟩ := o.ptr_some
  obtain ⟨ua, hua⟩ := p.ptr_some
  obtain ⟨ub, hub⟩ := q.ptr_some
  simp only [nodeCs, LT.ptr_node, hul, hua, hub] at h1 h3
  have g1 : ((((w.setCell ⟨b, 2, none⟩ (.pointer ua)).setCell ⟨c, 1, none⟩ (.pointer (some ⟨b, 0, none⟩))).setCell ⟨c, 3, none⟩ (.bool k)).setCell ⟨b, 3, none⟩ (.bool false)).heap[b]? = some (.cells #[x.val, .pointer ul, .pointer ua, .bool false] 122 (0, 0)) :=
    blk_set (blk_far (p := ⟨c, 3, none⟩) (blk_far (p := ⟨c, 1, none⟩) (blk_set h1 2 _) hbc _) hbc _) 3 _
  have g2 : ((((w.setCell ⟨b, 2, none⟩ (.pointer ua)).setCell ⟨c, 1, none⟩ (.pointer (some ⟨b, 0, none⟩))).setCell ⟨c, 3, none⟩ (.bool k)).setCell ⟨b, 3, none⟩ (.bool false)).heap[c]? = some (.cells #[y.val, .pointer (some ⟨b, 0, none⟩), .pointer ub, .bool k] 122 (0, 0)) :=
    blk_far (p := ⟨b, 3, none⟩) (blk_set (blk_set (blk_far (p := ⟨b, 2, none⟩) h3 hcb _) 1 _) 3 _) hcb _
  have hex : Ex (· ∈ (LT.node b x k o (.node c y false p q)).blks) w ((((w.setCell ⟨b, 2, none⟩ (.pointer ua)).setCell ⟨c, 1, none⟩ (.pointer (some ⟨b, 0, none⟩))).setCell ⟨c, 3, none⟩ (.bool k)).setCell ⟨b, 3, none⟩ (.bool false)) := by
    have hb : b ∈ (LT.node b x k o (.node c y false p q)).blks := by simp [LT.blks]
    have hc : c ∈ (LT.node b x k o (.node c y false p q)).blks := by simp [LT.blks]
    exact Ex.setCell (p := ⟨b, 3, none⟩) (Ex.setCell (p := ⟨c, 3, none⟩) (Ex.setCell (p := ⟨c, 1, none⟩) (Ex.setCell (p := ⟨b, 2, none⟩) (Ex.refl _ w) hb _) hc _) hc _) hb _
  have hkeep : ∀ j, j ≠ b → j ≠ c → ((((w.setCell ⟨b, 2, none⟩ (.pointer ua)).setCell ⟨c, 1, none⟩ (.pointer (some ⟨b, 0, none⟩))).setCell ⟨c, 3, none⟩ (.bool k)).setCell ⟨b, 3, none⟩ (.bool false)).heap[j]? = w.heap[j]? := fun j hb hc =>
    (Below.heap_setCell _ ⟨b, 3, none⟩ _ j hb).trans ((Below.heap_setCell _ ⟨c, 3, none⟩ _ j hc).trans ((Below.heap_setCell _ ⟨c, 1, none⟩ _ j hc).trans (Below.heap_setCell _ ⟨b, 2, none⟩ _ j hb)))
  have HT : Kp (Turn w ((((w.setCell ⟨b, 2, none⟩ (.pointer ua)).setCell ⟨c, 1, none⟩ (.pointer (some ⟨b, 0, none⟩))).setCell ⟨c, 3, none⟩ (.bool k)).setCell ⟨b, 3, none⟩ (.bool false)) (LT.node b x k o (.node c y false p q)) (LT.node c y k (.node b x false o p) q)) := by
    have ho : o.In ((((w.setCell ⟨b, 2, none⟩ (.pointer ua)).setCell ⟨c, 1, none⟩ (.pointer (some ⟨b, 0, none⟩))).setCell ⟨c, 3, none⟩ (.bool k)).setCell ⟨b, 3, none⟩ (.bool false)) := h2.keep fun j hj => hkeep j (fun e => n1 (e ▸ hj)) (fun e => n5 j hj (by simp [LT.blks, e]))
    have hp : p.In ((((w.setCell ⟨b, 2, none⟩ (.pointer ua)).setCell ⟨c, 1, none⟩ (.pointer (some ⟨b, 0, none⟩))).setCell ⟨c, 3, none⟩ (.bool k)).setCell ⟨b, 3, none⟩ (.bool false)) := h4.keep fun j hj => hkeep j (fun e => hbp (e ▸ hj)) (fun e => m1 (e ▸ hj))
    have hq : q.In ((((w.setCell ⟨b, 2, none⟩ (.pointer ua)).setCell ⟨c, 1, none⟩ (.pointer (some ⟨b, 0, none⟩))).setCell ⟨c, 3, none⟩ (.bool k)).setCell ⟨b, 3, none⟩ (.bool false)) := h5.keep fun j hj => hkeep j (fun e => hbq (e ▸ hj)) (fun e => m2 (e ▸ hj))
    have hpm : (LT.node c y k (.node b x false o p) q).blks.Perm (LT.node b x k o (.node c y false p q)).blks := by
      rw [List.perm_iff_count]
      intro a
      simp only [LT.blks, List.count_cons, List.count_append]
      omega
    exact ⟨⟨⟨by simpa only [nodeCs, LT.ptr_node, hub] using g2, ⟨by simpa only [nodeCs, hul, hua] using g1, ho, hp⟩, hq⟩, hpm.nodup_iff.2 hn, fun j hj => .inl (hpm.mem_iff.1 hj), hex⟩⟩
  have c2 := blk_cell h1 2
  have d1 := blk_cell h3 1
  have d3 := blk_cell h3 3
  have f2 := blk_frozen h1 2
  have s1 := blk_set h1 2 (.pointer ua)
  have s2 := blk_far (p := ⟨b, 2, none⟩) h3 hcb (.pointer ua)
  have e1 := blk_frozen s2 1
  have s3 := blk_set s2 1 (.pointer (some ⟨b, 0, none⟩))
  have s4 := blk_far (p := ⟨c, 1, none⟩) s1 hbc (.pointer (some ⟨b, 0, none⟩))
  have i3 := blk_cell s4 3
  have e3 := blk_frozen s3 3
  have s5 := blk_far (p := ⟨c, 3, none⟩) s4 hbc (.bool k)
  have e4 := blk_frozen s5 3
  clear h1 h2 h3 h4 h5 n1 n2 n3 n4 n5 n5' m1 m2 m3 m4 m5 hn g1 g2 hex hkeep s1 s2 s3 s4 s5 hul hua hub hbp hbq
  go_enter Tryz.func91, Tryz.ntmps91
  go_wp2
  go_ret
  exact ⟨rfl, HT.out⟩

set_option maxHeartbeats 1000000 in
/-- rotateRight. -/
theorem rotR_calls (b : Nat) (x : Itm) (k : Bool) (o : LT) (c : Nat) (y : Itm) (p q : LT) (w : World) (h : (LT.node b x k (.node c y false q p) o).In w) (hn : (LT.node b x k (.node c y false q p) o).blks.Nodup) :
    Calls Tryz.prog 92 #[.pointer (some ⟨b, 0, none⟩)] w fun e w' => e = .returned (.pointer (some ⟨c, 0, none⟩)) ∧ Turn w w' (LT.node b x k (.node c y false q p) o) (LT.node c y k q (.node b x false p o)) := by
  obtain ⟨h1, ⟨h3, h5, h4⟩, h2⟩ := h
  obtain ⟨n2, n1, n4, n3, n5'⟩ := nodup_node hn
  have n5 : ∀ j ∈ o.blks, j ∉ (LT.node c y false q p).blks := fun j hj hc => n5' j hc hj
  obtain ⟨m2, m1, m4, m3, m5⟩ := nodup_node n4
  simp only [LT.blks, List.mem_cons, List.mem_append, not_or] at n2
  have hbc : b ≠ c := n2.1
  have hcb : c ≠ b := fun e => hbc e.symm
  have hbp : b ∉ p.blks := n2.2.2
  have hbq : b ∉ q.blks := n2.2.1
  obtain ⟨ul, hul⟩ := o.ptr_some
  obtain ⟨ua, hua⟩ := p.ptr_some
  obtain ⟨ub, hub⟩ := q.ptr_some
  simp only [nodeCs, LT.ptr_node, hul, hua, hub] at h1 h3
  have g1 : ((((w.setCell ⟨b, 1, none⟩ (.pointer ua)).setCell ⟨c, 2, none⟩ (.pointer (some ⟨b, 0, none⟩))).setCell ⟨c, 3, none⟩ (.bool k)).setCell ⟨b, 3, none⟩ (.bool false)).heap[b]? = some (.cells #[x.val, .pointer ua, .pointer ul, .bool false] 122 (0, 0)) :=
    blk_set (blk_far (p := ⟨c, 3, none⟩) (blk_far (p := ⟨c, 2, none⟩) (blk_set h1 1 _) hbc _) hbc _) 3 _
  have g2 : ((((w.setCell ⟨b, 1, none⟩ (.pointer ua)).setCell ⟨c, 2, none⟩ (.pointer (some ⟨b, 0, none⟩))).setCell ⟨c, 3, none⟩ (.bool k)).setCell ⟨b, 3, none⟩ (.bool false)).heap[c]? = some (.cells #[y.val, .pointer ub, .pointer (some ⟨b, 0, none⟩), .bool k] 122 (0, 0)) :=
    blk_far (p := ⟨b, 3, none⟩) (blk_set (blk_set (blk_far (p := ⟨b, 1, none⟩) h3 hcb _) 2 _) 3 _) hcb _
  have hex : Ex (· ∈ (LT.node b x k (.node c y false q p) o).blks) w ((((w.setCell ⟨b, 1, none⟩ (.pointer ua)).setCell ⟨c, 2, none⟩ (.pointer (some ⟨b, 0, none⟩))).setCell ⟨c, 3, none⟩ (.bool k)).setCell ⟨b, 3, none⟩ (.bool false)) := by
    have hb : b ∈ (LT.node b x k (.node c y false q p) o).blks := by simp [LT.blks]
    have hc : c ∈ (LT.node b x k (.node c y false q p) o).blks := by simp [LT.blks]
    exact Ex.setCell (p := ⟨b, 3, none⟩) (Ex.setCell (p := ⟨c, 3, none⟩) (Ex.setCell (p := ⟨c, 2, none⟩) (Ex.setCell (p := ⟨b, 1, none⟩) (Ex.refl _ w) hb _) hc _) hc _) hb _
  have hkeep : ∀ j, j ≠ b → j ≠ c → ((((w.setCell ⟨b, 1, none⟩ (.pointer ua)).setCell ⟨c, 2, none⟩ (.pointer (some ⟨b, 0, none⟩))).setCell ⟨c, 3, none⟩ (.bool k)).setCell ⟨b, 3, none⟩ (.bool false)).heap[j]? = w.heap[j]? := fun j hb hc =>
    (Below.heap_setCell _ ⟨b, 3, none⟩ _ j hb).trans ((Below.heap_setCell _ ⟨c, 3, none⟩ _ j hc).trans ((Below.heap_setCell _ ⟨c, 2, none⟩ _ j hc).trans (Below.heap_setCell _ ⟨b, 1, none⟩ _ j hb)))
  have HT : Kp (Turn w ((((w.setCell ⟨b, 1, none⟩ (.pointer ua)).setCell ⟨c, 2, none⟩ (.pointer (some ⟨b, 0, none⟩))).setCell ⟨c, 3, none⟩ (.bool k)).setCell ⟨b, 3, none⟩ (.bool false)) (LT.node b x k (.node c y false q p) o) (LT.node c y k q (.node b x false p o))) := by
    have ho : o.In ((((w.setCell ⟨b, 1, none⟩ (.pointer ua)).setCell ⟨c, 2, none⟩ (.pointer (some ⟨b, 0, none⟩))).setCell ⟨c, 3, none⟩ (.bool k)).setCell ⟨b, 3, none⟩ (.bool false)) := h2.keep fun j hj => hkeep j (fun e => n1 (e ▸ hj)) (fun e => n5 j hj (by simp [LT.blks, e]))
    have hp : p.In ((((w.setCell ⟨b, 1, none⟩ (.pointer ua)).setCell ⟨c, 2, none⟩ (.pointer (some ⟨b, 0, none⟩))).setCell ⟨c, 3, none⟩ (.bool k)).setCell ⟨b, 3, none⟩ (.bool false)) := h4.keep fun j hj => hkeep j (fun e => hbp (e ▸ hj)) (fun e => m1 (e ▸ hj))
    have hq : q.In ((((w.setCell ⟨b, 1, none⟩ (.pointer ua)).setCell ⟨c, 2, none⟩ (.pointer (some ⟨b, 0, none⟩))).setCell ⟨c, 3, none⟩ (.bool k)).setCell ⟨b, 3, none⟩ (.bool false)) := h5.keep fun j hj => hkeep j (fun e => hbq (e ▸ hj)) (fun e => m2 (e ▸ hj))
    have hpm : (LT.node c y k q (.node b x false p o)).blks.Perm (LT.node b x k (.node c y false q p) o).blks := by
      rw [List.perm_iff_count]
      intro a
      simp only [LT.blks, List.count_cons, List.count_append]
      omega
    exact ⟨⟨⟨by simpa only [nodeCs, LT.ptr_node, hub] using g2, hq, by simpa only [nodeCs, hul, hua] using g1, hp, ho⟩, hpm.nodup_iff.2 hn, fun j hj => .inl (hpm.mem_iff.1 hj), hex⟩⟩
  have c2 := blk_cell h1 1
  have d1 := blk_cell h3 2
  have d3 := blk_cell h3 3
  have f2 := blk_frozen h1 1
  have s1 := blk_set h1 1 (.pointer ua)
  have s2 := blk_far (p := ⟨b, 1, none⟩) h3 hcb (.pointer ua)
  have e1 := blk_frozen s2 2
  have s3 := blk_set s2 2 (.pointer (some ⟨b, 0, none⟩))
  have s4 := blk_far (p := ⟨c, 2, none⟩) s1 hbc (.pointer (some ⟨b, 0, none⟩))
  have i3 := blk_cell s4 3
  have e3 := blk_frozen s3 3
  have s5 := blk_far (p := ⟨c, 3, none⟩) s4 hbc (.bool k)
  have e4 := blk_frozen s5 3
  clear h1 h2 h3 h4 h5 n1 n2 n3 n4 n5 n5' m1 m2 m3 m4 m5 hn g1 g2 hex hkeep s1 s2 s3 s4 s5 hul hua hub hbp hbq
  go_enter Tryz.func92, Tryz.ntmps92
  go_wp2
  go_ret
  exact ⟨rfl, HT.out⟩

end Go.Proofs.YtgjocdnpephcgaaGreatDoor
namespace Go.Proofs.YtgjocdnpephcgaaGreatDoor
open Go.RowKit

def flSt (w W1 : World) (f : Nat → Bool) : World := if f 14 then W1 else w
theorem flSt0 {w W1 : World} {f : Nat → Bool} (h : f 14 = false) : flSt w W1 f = w := by simp [flSt, h]
theorem flSt_upd {w W1 : World} {f : Nat → Bool} {i : Nat} (h : i ≠ 14) : flSt w W1 f = flSt w W1 (fun j => if j = i then true else f j) := by
  have h14 : ¬ 14 = i := fun e => h e.symm
  simp only [flSt, if_neg h14]
/-- What the operations of a line of flip leave. -/
def flV (b c fld : Nat) (k : Bool) (i : Nat) : Value :=
  match i with
  | 0 => .pointer (some ⟨b, 0, none⟩)
  | 1 => .pointer (some ⟨b, 0, none⟩)
  | 2 => .pointer (some ⟨b, fld, none⟩)
  | 3 => .pointer (some ⟨c, 0, none⟩)
  | 4 => .pointer (some ⟨b, 0, none⟩)
  | 5 => .pointer (some ⟨b, 0, none⟩)
  | 6 => .pointer (some ⟨b, fld, none⟩)
  | 7 => .pointer (some ⟨c, 0, none⟩)
  | 8 => .pointer (some ⟨c, 0, none⟩)
  | 9 => .pointer (some ⟨c, 3, none⟩)
  | 10 => .bool k
  | 11 => .bool (!k)
  | 12 => .pointer (some ⟨c, 0, none⟩)
  | 13 => .pointer (some ⟨c, 3, none⟩)
  | _ => undef

set_option maxHeartbeats 4000000 in
set_option maxRecDepth 100000 in
/-- flip. -/
theorem flip_calls (b : Nat) (x : Itm) (k : Bool) (bl : Nat) (xl : Itm) (kl : Bool) (ll lr : LT) (br : Nat) (xr : Itm) (kr : Bool) (rl rr : LT) (w : World) (h : (LT.node b x k (.node bl xl kl ll lr) (.node br xr kr rl rr)).In w) (hn : (LT.node b x k (.node bl xl kl ll lr) (.node br xr kr rl rr)).blks.Nodup) :
    Calls Tryz.prog 93 #[.pointer (some ⟨b, 0, none⟩)] w fun e w' => e = .returned (.tuple #[]) ∧ Turn w w' (.node b x k (.node bl xl kl ll lr) (.node br xr kr rl rr)) (.node b x (!k) (.node bl xl (!kl) ll lr) (.node br xr (!kr) rl rr)) := by
  obtain ⟨h1, ⟨h2, h4, h5⟩, ⟨h3, h6, h7⟩⟩ := h
  obtain ⟨n1, n2, n3, n4, n5⟩ := nodup_node hn
  obtain ⟨m1, m2, _, _, _⟩ := nodup_node n3
  obtain ⟨p1, p2, _, _, _⟩ := nodup_node n4
  simp only [LT.blks, List.mem_cons, List.mem_append, not_or] at n1 n2
  have hbl : b ≠ bl := n1.1
  have hbr : b ≠ br := n2.1
  have hlr : bl ≠ br := fun e => n5 bl (by simp [LT.blks]) (by simp [LT.blks, e])
  simp only [nodeCs, LT.ptr_node] at h1
  obtain ⟨w1, hw1⟩ : ∃ W, W = (w.setCell ⟨b, 3, none⟩ (.bool (!k))) := ⟨_, rfl⟩
  obtain ⟨U1, hU1⟩ : ∃ W, W = w1.drew := ⟨_, rfl⟩
  obtain ⟨U2, hU2⟩ : ∃ W, W = U1.setCell ⟨bl, 3, none⟩ (.bool (!kl)) := ⟨_, rfl⟩
  obtain ⟨U3, hU3⟩ : ∃ W, W = U2.drew := ⟨_, rfl⟩
  obtain ⟨U4, hU4⟩ : ∃ W, W = U3.setCell ⟨br, 3, none⟩ (.bool (!kr)) := ⟨_, rfl⟩
  have b1 : U1.heap[b]? = some (.cells #[x.val, .pointer (some ⟨bl, 0, none⟩), .pointer (some ⟨br, 0, none⟩), .bool (!k)] 122 (0, 0)) := by rw [hU1, hw1]; exact blk_set h1 3 _
  have l1 : U1.heap[bl]? = some (.cells (nodeCs xl kl ll lr) 122 (0, 0)) := by rw [hU1, hw1]; exact blk_far (p := ⟨b, 3, none⟩) h2 hbl.symm _
  have r1 : U1.heap[br]? = some (.cells (nodeCs xr kr rl rr) 122 (0, 0)) := by rw [hU1, hw1]; exact blk_far (p := ⟨b, 3, none⟩) h3 hbr.symm _
  have b3 : U3.heap[b]? = some (.cells #[x.val, .pointer (some ⟨bl, 0, none⟩), .pointer (some ⟨br, 0, none⟩), .bool (!k)] 122 (0, 0)) := by rw [hU3, hU2]; exact blk_far (p := ⟨bl, 3, none⟩) b1 hbl _
  have l3 : U3.heap[bl]? = some (.cells (nodeCs xl (!kl) ll lr) 122 (0, 0)) := by rw [hU3, hU2]; exact blk_set l1 3 _
  have r3 : U3.heap[br]? = some (.cells (nodeCs xr kr rl rr) 122 (0, 0)) := by rw [hU3, hU2]; exact blk_far (p := ⟨bl, 3, none⟩) r1 hlr.symm _
  have b4 : U4.heap[b]? = some (.cells #[x.val, .pointer (some ⟨bl, 0, none⟩), .pointer (some ⟨br, 0, none⟩), .bool (!k)] 122 (0, 0)) := by rw [hU4]; exact blk_far (p := ⟨br, 3, none⟩) b3 hbr _
  have l4 : U4.heap[bl]? = some (.cells (nodeCs xl (!kl) ll lr) 122 (0, 0)) := by rw [hU4]; exact blk_far (p := ⟨br, 3, none⟩) l3 hlr _
  have r4 : U4.heap[br]? = some (.cells (nodeCs xr (!kr) rl rr) 122 (0, 0)) := by rw [hU4]; exact blk_set r3 3 _
  have hkeep : ∀ j, j ≠ b → j ≠ bl → j ≠ br → U4.heap[j]? = w.heap[j]? := fun j h1 h2 h3 => by
    rw [hU4, Below.heap_setCell _ ⟨br, 3, none⟩ _ j h3, hU3]
    show U2.heap[j]? = _
    rw [hU2, Below.heap_setCell _ ⟨bl, 3, none⟩ _ j h2, hU1]
    show w1.heap[j]? = _
    rw [hw1, Below.heap_setCell _ ⟨b, 3, none⟩ _ j h1]
  have HT : Kp (Turn w U4 (.node b x k (.node bl xl kl ll lr) (.node br xr kr rl rr)) (.node b x (!k) (.node bl xl (!kl) ll lr) (.node br xr (!kr) rl rr))) := by
    refine ⟨⟨⟨b4, ⟨l4, ?_, ?_⟩, ⟨r4, ?_, ?_⟩⟩, hn, fun j hj => .inl hj, ?_⟩⟩
    · exact h4.keep fun j hj => hkeep j (fun e => n1.2.1 (e ▸ hj)) (fun e => m1 (e ▸ hj)) (fun e => n5 j (by simp [LT.blks, hj]) (by simp [LT.blks, e]))
    · exact h5.keep fun j hj => hkeep j (fun e => n1.2.2 (e ▸ hj)) (fun e => m2 (e ▸ hj)) (fun e => n5 j (by simp [LT.blks, hj]) (by simp [LT.blks, e]))
    · exact h6.keep fun j hj => hkeep j (fun e => n2.2.1 (e ▸ hj)) (fun e => n5 j (by simp [LT.blks, e]) (by simp [LT.blks, hj])) (fun e => p1 (e ▸ hj))
    · exact h7.keep fun j hj => hkeep j (fun e => n2.2.2 (e ▸ hj)) (fun e => n5 j (by simp [LT.blks, e]) (by simp [LT.blks, hj])) (fun e => p2 (e ▸ hj))
    · rw [hU4, hU3, hU2, hU1, hw1]
      exact Ex.setCell (p := ⟨br, 3, none⟩) ((Ex.setCell (p := ⟨bl, 3, none⟩) ((Ex.setCell (p := ⟨b, 3, none⟩) (Ex.refl _ w) (by simp [LT.blks]) _).drewN 1) (by simp [LT.blks]) _).drewN 1) (by simp [LT.blks]) _
  have HU1 := Kp.mk hU1
  have HU2 := Kp.mk hU2
  have HU3 := Kp.mk hU3
  have HU4 := Kp.mk hU4
  have B1 := Kp.mk b1
  have L1 := Kp.mk l1
  have B3 := Kp.mk b3
  have R3 := Kp.mk r3
  have c3 := blk_cell h1 3
  have f3 := blk_frozen h1 3
  clear h1 h2 h3 h4 h5 h6 h7 n1 n2 n3 n4 n5 m1 m2 p1 p2 hn hU1 hU2 hU3 hU4 b1 l1 r1 b3 l3 r3 b4 l4 r4 hkeep hbl hbr hlr
  go_enter Tryz.func93, Tryz.ntmps93
  go_wp2_with fail
  rw [← hw1]
  clear hw1 c3 f3
  refine wp_region_growS (by kernel_rfl) 15 (by kernel_rfl) (flV b bl 1 kl) (flSt U1 U2) HU1.out.symm (apart_of (by kernel_rfl)) (by kernel_rfl) ?_ ?_
  · intro i hi ob ho f vs hfi hn hpre hw
    rcases i with _ | _ | _ | _ | _ | _ | _ | _ | _ | _ | _ | _ | _ | _ | _ | i
    · clear hn hpre hw
      obtain rfl := Option.some.inj ho
      simp only [canon, List.range, List.range.loop, List.foldl]
      go_simp
      exact ⟨rfl, flSt_upd (i := 0) (by decide)⟩
    · have e0 : vs 0 = _ := hpre 0 (by decide) (by obtain rfl := Option.some.inj ho; rfl)
      simp only [flV] at e0
      clear hn hpre hw
      obtain rfl := Option.some.inj ho
      simp only [canon, List.range, List.range.loop, List.foldl]
      go_simp
      exact ⟨rfl, flSt_upd (i := 1) (by decide)⟩
    · have e1 : vs 1 = _ := hpre 1 (by decide) (by obtain rfl := Option.some.inj ho; rfl)
      simp only [flV] at e1
      clear hn hpre hw
      obtain rfl := Option.some.inj ho
      simp only [canon, List.range, List.range.loop, List.foldl]
      go_simp
      exact ⟨rfl, flSt_upd (i := 2) (by decide)⟩
    · have e2 : vs 2 = _ := hpre 2 (by decide) (by obtain rfl := Option.some.inj ho; rfl)
      simp only [flV] at e2
      have h14 : f 14 = false := hn 14 _ rfl (by kernel_rfl)
      rw [flSt0 h14]
      have c1 := blk_cell B1.out 1
      clear hn hpre hw
      obtain rfl := Option.some.inj ho
      simp only [canon, List.range, List.range.loop, List.foldl]
      go_simp
      exact ⟨rfl, (flSt0 h14).symm.trans (flSt_upd (i := 3) (by decide))⟩
    · clear hn hpre hw
      obtain rfl := Option.some.inj ho
      simp only [canon, List.range, List.range.loop, List.foldl]
      go_simp
      exact ⟨rfl, flSt_upd (i := 4) (by decide)⟩
    · have e4 : vs 4 = _ := hpre 4 (by decide) (by obtain rfl := Option.some.inj ho; rfl)
      simp only [flV] at e4
      clear hn hpre hw
      obtain rfl := Option.some.inj ho
      simp only [canon, List.range, List.range.loop, List.foldl]
      go_simp
      exact ⟨rfl, flSt_upd (i := 5) (by decide)⟩
    · have e5 : vs 5 = _ := hpre 5 (by decide) (by obtain rfl := Option.some.inj ho; rfl)
      simp only [flV] at e5
      clear hn hpre hw
      obtain rfl := Option.some.inj ho
      simp only [canon, List.range, List.range.loop, List.foldl]
      go_simp
      exact ⟨rfl, flSt_upd (i := 6) (by decide)⟩
    · have e6 : vs 6 = _ := hpre 6 (by decide) (by obtain rfl := Option.some.inj ho; rfl)
      simp only [flV] at e6
      have h14 : f 14 = false := hn 14 _ rfl (by kernel_rfl)
      rw [flSt0 h14]
      have c1 := blk_cell B1.out 1
      clear hn hpre hw
      obtain rfl := Option.some.inj ho
      simp only [canon, List.range, List.range.loop, List.foldl]
      go_simp
      exact ⟨rfl, (flSt0 h14).symm.trans (flSt_upd (i := 7) (by decide))⟩
    · have e7 : vs 7 = _ := hpre 7 (by decide) (by obtain rfl := Option.some.inj ho; rfl)
      simp only [flV] at e7
      clear hn hpre hw
      obtain rfl := Option.some.inj ho
      simp only [canon, List.range, List.range.loop, List.foldl]
      go_simp
      exact ⟨rfl, flSt_upd (i := 8) (by decide)⟩
    · have e8 : vs 8 = _ := hpre 8 (by decide) (by obtain rfl := Option.some.inj ho; rfl)
      simp only [flV] at e8
      clear hn hpre hw
      obtain rfl := Option.some.inj ho
      simp only [canon, List.range, List.range.loop, List.foldl]
      go_simp
      exact ⟨rfl, flSt_upd (i := 9) (by decide)⟩
    · have e9 : vs 9 = _ := hpre 9 (by decide) (by obtain rfl := Option.some.inj ho; rfl)
      simp only [flV] at e9
      have h14 : f 14 = false := hn 14 _ rfl (by kernel_rfl)
      rw [flSt0 h14]
      have c1 := blk_cell L1.out 3
      simp only [nodeCs] at c1
      clear hn hpre hw
      obtain rfl := Option.some.inj ho
      simp only [canon, List.range, List.range.loop, List.foldl]
      go_simp
      exact ⟨rfl, (flSt0 h14).symm.trans (flSt_upd (i := 10) (by decide))⟩
    · have e10 : vs 10 = _ := hpre 10 (by decide) (by obtain rfl := Option.some.inj ho; rfl)
      simp only [flV] at e10
      clear hn hpre hw
      obtain rfl := Option.some.inj ho
      simp only [canon, List.range, List.range.loop, List.foldl]
      go_simp
      exact ⟨rfl, flSt_upd (i := 11) (by decide)⟩
    · have e3 : vs 3 = _ := hpre 3 (by decide) (by obtain rfl := Option.some.inj ho; rfl)
      simp only [flV] at e3
      clear hn hpre hw
      obtain rfl := Option.some.inj ho
      simp only [canon, List.range, List.range.loop, List.foldl]
      go_simp
      exact ⟨rfl, flSt_upd (i := 12) (by decide)⟩
    · have e12 : vs 12 = _ := hpre 12 (by decide) (by obtain rfl := Option.some.inj ho; rfl)
      simp only [flV] at e12
      clear hn hpre hw
      obtain rfl := Option.some.inj ho
      simp only [canon, List.range, List.range.loop, List.foldl]
      go_simp
      exact ⟨rfl, flSt_upd (i := 13) (by decide)⟩
    · have e13 : vs 13 = _ := hpre 13 (by decide) (by obtain rfl := Option.some.inj ho; rfl)
      have e11 : vs 11 = _ := hpre 11 (by decide) (by obtain rfl := Option.some.inj ho; rfl)
      simp only [flV] at e13 e11
      rw [flSt0 hfi]
      have c1 := blk_cell L1.out 3
      have f1 := blk_frozen L1.out 3
      simp only [nodeCs] at c1
      clear hn hpre hw
      obtain rfl := Option.some.inj ho
      simp only [canon, List.range, List.range.loop, List.foldl]
      go_simp
      exact HU2.out.symm
    · omega
  · intro vs hvs
    change wpAny _ _ _ _ _ _ _ U2
    rw [canon_congr (us := flV b bl 1 kl) hvs]
    clear hvs
    refine wpAny_none (by kernel_rfl) ?_ _
    simp only [canon, List.range, List.range.loop, List.foldl, flV]
    go_wp2_with fail
    refine wp_region_growS (by kernel_rfl) 15 (by kernel_rfl) (flV b br 2 kr) (flSt U3 U4) HU3.out.symm (apart_of (by kernel_rfl)) (by kernel_rfl) ?_ ?_
    · intro i hi ob ho f vs hfi hn hpre hw
      rcases i with _ | _ | _ | _ | _ | _ | _ | _ | _ | _ | _ | _ | _ | _ | _ | i
      · clear hn hpre hw
        obtain rfl := Option.some.inj ho
        simp only [canon, List.range, List.range.loop, List.foldl]
        go_simp
        exact ⟨rfl, flSt_upd (i := 0) (by decide)⟩
      · have e0 : vs 0 = _ := hpre 0 (by decide) (by obtain rfl := Option.some.inj ho; rfl)
        simp only [flV] at e0
        clear hn hpre hw
        obtain rfl := Option.some.inj ho
        simp only [canon, List.range, List.range.loop, List.foldl]
        go_simp
        exact ⟨rfl, flSt_upd (i := 1) (by decide)⟩
      · have e1 : vs 1 = _ := hpre 1 (by decide) (by obtain rfl := Option.some.inj ho; rfl)
        simp only [flV] at e1
        clear hn hpre hw
        obtain rfl := Option.some.inj ho
        simp only [canon, List.range, List.range.loop, List.foldl]
        go_simp
        exact ⟨rfl, flSt_upd (i := 2) (by decide)⟩
      · have e2 : vs 2 = _ := hpre 2 (by decide) (by obtain rfl := Option.some.inj ho; rfl)
        simp only [flV] at e2
        have h14 : f 14 = false := hn 14 _ rfl (by kernel_rfl)
        rw [flSt0 h14]
        have c1 := blk_cell B3.out 2
        clear hn hpre hw
        obtain rfl := Option.some.inj ho
        simp only [canon, List.range, List.range.loop, List.foldl]
        go_simp
        exact ⟨rfl, (flSt0 h14).symm.trans (flSt_upd (i := 3) (by decide))⟩
      · clear hn hpre hw
        obtain rfl := Option.some.inj ho
        simp only [canon, List.range, List.range.loop, List.foldl]
        go_simp
        exact ⟨rfl, flSt_upd (i := 4) (by decide)⟩
      · have e4 : vs 4 = _ := hpre 4 (by decide) (by obtain rfl := Option.some.inj ho; rfl)
        simp only [flV] at e4
        clear hn hpre hw
        obtain rfl := Option.some.inj ho
        simp only [canon, List.range, List.range.loop, List.foldl]
        go_simp
        exact ⟨rfl, flSt_upd (i := 5) (by decide)⟩
      · have e5 : vs 5 = _ := hpre 5 (by decide) (by obtain rfl := Option.some.inj ho; rfl)
        simp only [flV] at e5
        clear hn hpre hw
        obtain rfl := Option.some.inj ho
        simp only [canon, List.range, List.range.loop, List.foldl]
        go_simp
        exact ⟨rfl, flSt_upd (i := 6) (by decide)⟩
      · have e6 : vs 6 = _ := hpre 6 (by decide) (by obtain rfl := Option.some.inj ho; rfl)
        simp only [flV] at e6
        have h14 : f 14 = false := hn 14 _ rfl (by kernel_rfl)
        rw [flSt0 h14]
        have c1 := blk_cell B3.out 2
        clear hn hpre hw
        obtain rfl := Option.some.inj ho
        simp only [canon, List.range, List.range.loop, List.foldl]
        go_simp
        exact ⟨rfl, (flSt0 h14).symm.trans (flSt_upd (i := 7) (by decide))⟩
      · have e7 : vs 7 = _ := hpre 7 (by decide) (by obtain rfl := Option.some.inj ho; rfl)
        simp only [flV] at e7
        clear hn hpre hw
        obtain rfl := Option.some.inj ho
        simp only [canon, List.range, List.range.loop, List.foldl]
        go_simp
        exact ⟨rfl, flSt_upd (i := 8) (by decide)⟩
      · have e8 : vs 8 = _ := hpre 8 (by decide) (by obtain rfl := Option.some.inj ho; rfl)
        simp only [flV] at e8
        clear hn hpre hw
        obtain rfl := Option.some.inj ho
        simp only [canon, List.range, List.range.loop, List.foldl]
        go_simp
        exact ⟨rfl, flSt_upd (i := 9) (by decide)⟩
      · have e9 : vs 9 = _ := hpre 9 (by decide) (by obtain rfl := Option.some.inj ho; rfl)
        simp only [flV] at e9
        have h14 : f 14 = false := hn 14 _ rfl (by kernel_rfl)
        rw [flSt0 h14]
        have c1 := blk_cell R3.out 3
        simp only [nodeCs] at c1
        clear hn hpre hw
        obtain rfl := Option.some.inj ho
        simp only [canon, List.range, List.range.loop, List.foldl]
        go_simp
        exact ⟨rfl, (flSt0 h14).symm.trans (flSt_upd (i := 10) (by decide))⟩
      · have e10 : vs 10 = _ := hpre 10 (by decide) (by obtain rfl := Option.some.inj ho; rfl)
        simp only [flV] at e10
        clear hn hpre hw
        obtain rfl := Option.some.inj ho
        simp only [canon, List.range, List.range.loop, List.foldl]
        go_simp
        exact ⟨rfl, flSt_upd (i := 11) (by decide)⟩
      · have e3 : vs 3 = _ := hpre 3 (by decide) (by obtain rfl := Option.some.inj ho; rfl)
        simp only [flV] at e3
        clear hn hpre hw
        obtain rfl := Option.some.inj ho
        simp only [canon, List.range, List.range.loop, List.foldl]
        go_simp
        exact ⟨rfl, flSt_upd (i := 12) (by decide)⟩
      · have e12 : vs 12 = _ := hpre 12 (by decide) (by obtain rfl := Option.some.inj ho; rfl)
        simp only [flV] at e12
        clear hn hpre hw
        obtain rfl := Option.some.inj ho
        simp only [canon, List.range, List.range.loop, List.foldl]
        go_simp
        exact ⟨rfl, flSt_upd (i := 13) (by decide)⟩
      · have e13 : vs 13 = _ := hpre 13 (by decide) (by obtain rfl := Option.some.inj ho; rfl)
        have e11 : vs 11 = _ := hpre 11 (by decide) (by obtain rfl := Option.some.inj ho; rfl)
        simp only [flV] at e13 e11
        rw [flSt0 hfi]
        have c1 := blk_cell R3.out 3
        have f1 := blk_frozen R3.out 3
        simp only [nodeCs] at c1
        clear hn hpre hw
        obtain rfl := Option.some.inj ho
        simp only [canon, List.range, List.range.loop, List.foldl]
        go_simp
        exact HU4.out.symm
      · omega
    · intro vs hvs
      change wpAny _ _ _ _ _ _ _ U4
      rw [canon_congr (us := flV b br 2 kr) hvs]
      clear hvs
      refine wpAny_none (by kernel_rfl) ?_ _
      simp only [canon, List.range, List.range.loop, List.foldl, flV]
      go_wp2
      go_end0
      exact ⟨rfl, HT.out⟩

end Go.Proofs.YtgjocdnpephcgaaGreatDoor
namespace Go.Proofs.YtgjocdnpephcgaaGreatDoor
open Go.RowKit

theorem red_node {T : LT} (h : T.red = true) : ∃ c y p q, T = .node c y false p q := by
  cases T with
  | nil => cases h
  | node c y k p q => simp [LT.red] at h; subst h; exact ⟨c, y, p, q, rfl⟩

/-- What walkUpRot23 keeps. -/
def Up (w : World) (T T' : LT) (w' : World) (v : Value) : Prop := v = T'.ptr ∧ T' ≠ .nil ∧ T'.items = T.items ∧ Turn w w' T T'

set_option maxHeartbeats 8000000 in
set_option maxRecDepth 100000 in
/-- walkUpRot23. -/
theorem walkUp_calls (b : Nat) (x : Itm) (k : Bool) (l r : LT) (w : World) (h : (LT.node b x k l r).In w) (hn : (LT.node b x k l r).blks.Nodup) :
    Calls Tryz.prog 86 #[.pointer (some ⟨b, 0, none⟩)] w fun e w' => ∃ v T', e = .returned v ∧ Up w (.node b x k l r) T' w' v := by
  obtain ⟨ul, hul⟩ := l.ptr_some
  obtain ⟨ur, hur⟩ := r.ptr_some
  have HL : Kp (Calls Tryz.prog 90 #[.pointer ul] w fun e w' => e = .returned (.bool l.red) ∧ w = w') := ⟨by rw [← hul]; exact isRed_calls l w h.2.1⟩
  have HR : Kp (Calls Tryz.prog 90 #[.pointer ur] w fun e w' => e = .returned (.bool r.red) ∧ w = w') := ⟨by rw [← hur]; exact isRed_calls r w h.2.2⟩
  have hc := h.1
  simp only [nodeCs, hul, hur] at hc
  have c1 := blk_cell hc 1
  have c2 := blk_cell hc 2
  have H := Kp.mk (And.intro h hn)
  clear h hn hc hul hur
  go_enter Tryz.func86, Tryz.ntmps86
  go_upto_region 1 with fail
  go_cut [15] (fun s15 wx => s15 = .bool (r.red && !l.red) ∧ wx = w)
  case first =>
    cases hr : r.red with
    | false =>
      rw [hr] at HR
      go_wp2_with fail
      refine HR.out.mono ?_
      rintro e w1 ⟨rfl, rfl⟩
      go_wp2_with fail
      go_meet
      exact ⟨by simp [hr], rfl⟩
    | true =>
      rw [hr] at HR
      go_wp2_with fail
      refine HR.out.mono ?_
      rintro e w1 ⟨rfl, rfl⟩
      cases hl : l.red with
      | false =>
        rw [hl] at HL
        go_wp2_with fail
        refine HL.out.mono ?_
        rintro e w1 ⟨rfl, rfl⟩
        go_wp2_with fail
        go_meet
        exact ⟨by simp [hr, hl], rfl⟩
      | true =>
        rw [hl] at HL
        go_wp2_with fail
        refine HL.out.mono ?_
        rintro e w1 ⟨rfl, rfl⟩
        go_wp2_with fail
        go_meet
        exact ⟨by simp [hr, hl], rfl⟩
  case rest =>
  obtain ⟨rfl, hw⟩ := hcut
  obtain rfl := hw.symm
  clear c1 c2 HL HR
  go_upto_if 15 with fail
  go_cut [0] (fun s0 wx => ∃ T', Up w (LT.node b x k l r) T' wx s0)
  case first =>
    cases hb : (r.red && !l.red) with
    | false =>
      go_wp2_with fail
      go_meet
      exact ⟨.node b x k l r, rfl, (fun h => by cases h), rfl, Turn.refl H.out.1 H.out.2⟩
    | true =>
      simp only [Bool.and_eq_true] at hb
      obtain ⟨c, y, p, q, rfl⟩ := red_node hb.1
      have HR := Kp.mk (rotL_calls b x k l c y p q w H.out.1 H.out.2)
      clear hb
      go_wp2_with fail
      refine HR.out.mono ?_
      rintro e w1 ⟨rfl, ht⟩
      have HT := Kp.mk ht
      clear ht HR
      go_wp2_with fail
      go_meet
      exact ⟨.node c y k (.node b x false l p) q, rfl, (fun h => by cases h), by simp [LT.items], HT.out⟩
  case rest =>
  obtain ⟨T1, rfl, hT1, hi1, ht1⟩ := hcut
  obtain ⟨w2, hw⟩ : ∃ W, W = wc := ⟨_, rfl⟩
  subst hw
  obtain ⟨b1, x1, k1, l1, r1, rfl⟩ : ∃ b x k l r, T1 = .node b x k l r := by
    cases T1 with
    | nil => exact absurd rfl hT1
    | node b x k l r => exact ⟨b, x, k, l, r, rfl⟩
  clear hT1
  have HI1 := Kp.mk hi1
  have HT1 := Kp.mk ht1
  clear hi1 ht1
  rw [LT.ptr_node]
  obtain ⟨ul, hul⟩ := l1.ptr_some
  obtain ⟨ur, hur⟩ := r1.ptr_some
  have hc := HT1.out.inn.1
  simp only [nodeCs, hul, hur] at hc
  have c1 := blk_cell hc 1
  have HL : Kp (Calls Tryz.prog 90 #[.pointer ul] w2 fun e w' => e = .returned (.bool l1.red) ∧ w2 = w') := ⟨by rw [← hul]; exact isRed_calls l1 w2 HT1.out.inn.2.1⟩
  have HUL := Kp.mk hul
  clear hc hul hur
  go_upto_region 3 with fail
  go_cut [32] (fun s32 wx => ∃ c : Bool, s32 = .bool c ∧ (c = true → l1.red = true) ∧ wx = w2)
  case first =>
    cases hl : l1.red with
    | false =>
      rw [hl] at HL
      go_wp2_with fail
      refine HL.out.mono ?_
      rintro e w1 ⟨rfl, rfl⟩
      go_wp2_with fail
      go_meet
      exact ⟨false, rfl, fun h => (by cases h), rfl⟩
    | true =>
      rw [hl] at HL
      obtain ⟨c, y, p, q, rfl⟩ := red_node hl
      obtain ⟨uq, huq⟩ := p.ptr_some
      have hd := HT1.out.inn.2.1.1
      simp only [nodeCs, huq] at hd
      have d1 := blk_cell hd 1
      have HQ : Kp (Calls Tryz.prog 90 #[.pointer uq] w2 fun e w' => e = .returned (.bool p.red) ∧ w2 = w') := ⟨by rw [← huq]; exact isRed_calls p w2 HT1.out.inn.2.1.2.1⟩
      obtain rfl : ul = some ⟨c, 0, none⟩ := by have := HUL.out; simp [LT.ptr] at this; exact this.symm
      clear hd huq
      go_wp2_with fail
      refine HL.out.mono ?_
      rintro e w1 ⟨rfl, rfl⟩
      go_wp2_with fail
      refine HQ.out.mono ?_
      rintro e w1 ⟨rfl, rfl⟩
      go_wp2_with fail
      go_meet
      exact ⟨_, rfl, fun _ => rfl, rfl⟩
  case rest =>
  obtain ⟨c2, rfl, hc2, hw⟩ := hcut
  obtain rfl := hw.symm
  have HC2 := Kp.mk hc2
  clear c1 HL HUL hc2
  go_upto_if 32 with fail
  go_cut [0] (fun s0 wx => ∃ T', Up w (LT.node b x k l r) T' wx s0)
  case first =>
    cases c2 with
    | false =>
      go_wp2_with fail
      go_meet
      exact ⟨.node b1 x1 k1 l1 r1, rfl, (fun h => by cases h), HI1.out, HT1.out⟩
    | true =>
      obtain ⟨c, y, p, q, rfl⟩ := red_node (HC2.out rfl)
      have HR := Kp.mk (rotR_calls b1 x1 k1 r1 c y q p w2 HT1.out.inn HT1.out.nd)
      go_wp2_with fail
      refine HR.out.mono ?_
      rintro e w1 ⟨rfl, ht⟩
      have HT := Kp.mk (HT1.out.trans ht)
      clear ht HR
      go_wp2_with fail
      go_meet
      exact ⟨.node c y k1 p (.node b1 x1 false q r1), rfl, (fun h => by cases h), by rw [← HI1.out]; simp [LT.items], HT.out⟩
  case rest =>
  obtain ⟨T1, rfl, hT1, hi1, ht1⟩ := hcut
  obtain ⟨w3, hw⟩ : ∃ W, W = wc := ⟨_, rfl⟩
  subst hw
  clear HI1 HT1 HC2
  obtain ⟨b2, x2, k2, l2, r2, rfl⟩ : ∃ b x k l r, T1 = .node b x k l r := by
    cases T1 with
    | nil => exact absurd rfl hT1
    | node b x k l r => exact ⟨b, x, k, l, r, rfl⟩
  clear hT1
  have HI1 := Kp.mk hi1
  have HT1 := Kp.mk ht1
  clear hi1 ht1
  rw [LT.ptr_node]
  obtain ⟨ul, hul⟩ := l2.ptr_some
  obtain ⟨ur, hur⟩ := r2.ptr_some
  have hc := HT1.out.inn.1
  simp only [nodeCs, hul, hur] at hc
  have c1 := blk_cell hc 1
  have c2 := blk_cell hc 2
  have HL : Kp (Calls Tryz.prog 90 #[.pointer ul] w3 fun e w' => e = .returned (.bool l2.red) ∧ w3 = w') := ⟨by rw [← hul]; exact isRed_calls l2 _ HT1.out.inn.2.1⟩
  have HR : Kp (Calls Tryz.prog 90 #[.pointer ur] w3 fun e w' => e = .returned (.bool r2.red) ∧ w3 = w') := ⟨by rw [← hur]; exact isRed_calls r2 _ HT1.out.inn.2.2⟩
  clear hc hul hur
  go_upto_region 5 with fail
  go_cut [46] (fun s46 wx => ∃ c : Bool, s46 = .bool c ∧ (c = true → l2.red = true ∧ r2.red = true) ∧ wx = w3)
  case first =>
    cases hl : l2.red with
    | false =>
      rw [hl] at HL
      go_wp2_with fail
      refine HL.out.mono ?_
      rintro e w1 ⟨rfl, rfl⟩
      go_wp2_with fail
      go_meet
      exact ⟨false, rfl, fun h => (by cases h), rfl⟩
    | true =>
      rw [hl] at HL
      go_wp2_with fail
      refine HL.out.mono ?_
      rintro e w1 ⟨rfl, rfl⟩
      go_wp2_with fail
      refine HR.out.mono ?_
      rintro e w1 ⟨rfl, rfl⟩
      go_wp2_with fail
      go_meet
      exact ⟨_, rfl, fun h => ⟨hl, h⟩, rfl⟩
  case rest =>
  obtain ⟨c3, rfl, hc3, hw⟩ := hcut
  obtain rfl := hw.symm
  have HC3 := Kp.mk hc3
  clear c1 c2 HL HR hc3
  cases c3 with
  | false =>
    go_wp2_with fail
    go_ret
    exact ⟨_, rfl, .node b2 x2 k2 l2 r2, rfl, (fun h => by cases h), HI1.out, HT1.out⟩
  | true =>
    obtain ⟨hl, hr⟩ := HC3.out rfl
    obtain ⟨c, y, p, q, rfl⟩ := red_node hl
    obtain ⟨d, z, p', q', rfl⟩ := red_node hr
    have HF := Kp.mk (flip_calls b2 x2 k2 c y false p q d z false p' q' _ HT1.out.inn HT1.out.nd)
    clear hl hr
    go_wp2_with fail
    refine HF.out.mono ?_
    rintro e w1 ⟨rfl, ht⟩
    have HT := Kp.mk (HT1.out.trans ht)
    clear ht HF
    go_wp2_with fail
    go_ret
    exact ⟨_, .node b2 x2 (!k2) (.node c y (!false) p q) (.node d z (!false) p' q'), rfl, rfl, (fun h => by cases h), by rw [← HI1.out]; simp [LT.items], HT.out⟩

end Go.Proofs.YtgjocdnpephcgaaGreatDoor
