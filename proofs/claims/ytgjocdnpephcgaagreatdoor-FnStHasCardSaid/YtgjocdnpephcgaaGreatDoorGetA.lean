/- Some texts in one: IiAll1, GetAll1, GetAll, IiAll. -/
import Derived.Test.YtgjocdnpephcgaaGreatDoorAsc
import Derived.Test.YtgjocdnpephcgaaGreatDoorIxA
import Derived.Lib.AppendZerosOnto
import Derived.Test.YtgjocdnpephcgaaGreatDoorErrLaid
namespace Go.Proofs.YtgjocdnpephcgaaGreatDoor
open Go.RowKit




theorem ownsRow_below {base n : Nat} {e : TypeId} {v : Value} {xs : List Value} {w w1 : World} (h : w.ownsRow base e 1 v n xs) (hb : Below w.heap.size w w1) : w1.ownsRow base e 1 v n xs := by
  obtain ⟨h1, h2⟩ := h
  refine ⟨h1, h2.imp id ?_⟩
  rintro ⟨g, cap, cur, rfl, h3, h4, h5⟩
  exact ⟨g, cap, cur, rfl, h3, blk_keep h4 hb, h5⟩



theorem ownsRow_ex {P : Nat → Prop} {base n : Nat} {e : TypeId} {v : Value} {xs : List Value} {w w1 : World} (h : w.ownsRow base e 1 v n xs) (hb : Ex P w w1) (hP : ∀ k, base ≤ k → ¬ P k) : w1.ownsRow base e 1 v n xs := by
  obtain ⟨h1, h2⟩ := h
  refine ⟨h1, h2.imp id ?_⟩
  rintro ⟨g, cap, cur, rfl, h3, h4, h5⟩
  exact ⟨g, cap, cur, rfl, h3, hb.keep h4 (hP g h3), h5⟩



theorem info_u64 : (Tryz.prog.info? 23).map (fun i => (i.zero, i.size, i.bytes)) = some (some (.int .u64 0), 1, 8) := by kernel_rfl
























































end Go.Proofs.YtgjocdnpephcgaaGreatDoor
namespace Go.Proofs.YtgjocdnpephcgaaGreatDoor
open Go.RowKit

theorem vis_split {p : Itm} : ∀ {L : List Itm}, Sorted L → vis p L = L.filter (fun y => decide (y.ds = p.ds)) ++ L.filter (fun y => dLt p.ds y.ds)
  | [], _ => rfl
  | y :: L, h => by
    obtain ⟨h1, h2⟩ := List.pairwise_cons.1 h
    have ih := vis_split (p := p) h2
    unfold vis at ih ⊢
    by_cases he : y.ds = p.ds
    · have a : dLt p.ds p.ds = false := dLe_refl _
      rw [List.filter_cons, List.filter_cons, List.filter_cons, ih]
      simp [a, he]
    · cases hl : dLt y.ds p.ds with
      | true =>
        have b : dLt p.ds y.ds = false := dLe_of_lt hl
        rw [List.filter_cons, List.filter_cons, List.filter_cons, ih]
        simp [hl, b, he]
      | false =>
        have hgt : dLt p.ds y.ds = true := by
          cases hq : dLt p.ds y.ds with
          | true => rfl
          | false => exact absurd (dLe_antisymm hq hl) he
        have hall : ∀ z ∈ L, dLt p.ds z.ds = true := fun z hz => by
          cases hq : dLt p.ds z.ds with
          | true => rfl
          | false =>
            have := dLe_trans (h1 z hz) hq
            unfold dLe at this
            rw [hgt] at this; cases this
        have e1 : L.filter (fun y => decide (y.ds = p.ds)) = [] := by
          rw [List.filter_eq_nil_iff]
          intro z hz
          have := hall z hz
          simp only [decide_eq_true_eq]
          intro e
          rw [e] at this
          have h0 : dLt p.ds p.ds = false := dLe_refl _
          rw [h0] at this; cases this
        have e2 : L.filter (fun y => dLt p.ds y.ds) = L := List.filter_eq_self.2 hall
        have e3 : L.filter (fun y => !dLt y.ds p.ds) = L := by
          refine List.filter_eq_self.2 fun z hz => ?_
          have : dLt z.ds p.ds = false := dLe_of_lt (hall z hz)
          simp [this]
        rw [List.filter_cons, List.filter_cons, List.filter_cons, e1, e2, e3]
        simp [hl, hgt, he]

/-- The entries of a digest. -/
def ofD (D : List UInt8) (L : List Itm) : List Itm := L.filter fun y => decide (y.ds = D)
theorem vis_at {p : Itm} {L : List Itm} (hs : Sorted L) (k : Nat) (hk : k < (vis p L).length) : if h : k < (ofD p.ds L).length then (vis p L)[k].ds = p.ds ∧ (vis p L)[k] = (ofD p.ds L)[k] else (vis p L)[k].ds ≠ p.ds := by
  have hv := vis_split (p := p) hs
  have hget : (vis p L)[k]? = (ofD p.ds L ++ L.filter (fun y => dLt p.ds y.ds))[k]? := by rw [hv]; rfl
  split
  · rename_i h
    rw [List.getElem?_append_left h, List.getElem?_eq_getElem hk, List.getElem?_eq_getElem h] at hget
    have e := Option.some.inj hget
    have hm := List.getElem_mem h
    simp only [ofD, List.mem_filter, decide_eq_true_eq] at hm
    refine ⟨?_, e⟩
    rw [e]
    exact hm.2
  · rename_i h
    rw [List.getElem?_append_right (by omega), List.getElem?_eq_getElem hk] at hget
    have hm := List.mem_of_getElem? hget.symm
    simp only [List.mem_filter] at hm
    intro e
    have h2 := hm.2
    rw [e] at h2
    have h0 : dLt p.ds p.ds = false := dLe_refl _
    rw [h0] at h2; cases h2

theorem RdB.exL {P : Nat → Prop} {w w1 : World} {A : Option Addr} {n c : Nat} {bs : List UInt8} (h : RdB w A n c bs) (hb : Ex P w w1) (hp : ∀ k, k < w.heap.size → P k → ∃ cs t, w.heap[k]? = some (.cells cs t (0, 0)) ∧ ∀ (i : Nat) (x : Int), cs[i]? ≠ some (Value.int .u8 x)) : RdB w1 A n c bs :=
  ⟨h.len, h.cap, h.most, fun h0 => by
    obtain ⟨g', o', e, hc⟩ := h.lies h0
    refine ⟨g', o', e, fun i hi => (World.cell?_of_block (a := ⟨g', o' + i, none⟩) (hb.block g' (World.block_lt_of_cell? w _ (hc i hi)) fun hP => ?_)).trans (hc i hi)⟩
    obtain ⟨cs, t, hblk, hno⟩ := hp g' (World.block_lt_of_cell? w _ (hc i hi)) hP
    have h1 := hc i hi
    rw [blk_cell hblk (o' + i)] at h1
    exact hno _ _ h1⟩

















































































































































































end Go.Proofs.YtgjocdnpephcgaaGreatDoor
namespace Go.Proofs.YtgjocdnpephcgaaGreatDoor
open Go.RowKit

/-- The offsets of a digest's entries. -/
def offsK (D : List UInt8) (K : List (List UInt8 × ByteArray × Nat)) : List Nat := (K.filter fun y => decide (y.1 = D)).map (·.2.2)
theorem offsK_map (D : List UInt8) (L : List Itm) : (ofD D L).map (·.off) = offsK D (L.map Itm.key) := by
  induction L with
  | nil => rfl
  | cons y L ih =>
    unfold ofD offsK at *
    rw [List.map_cons, List.filter_cons, List.filter_cons]
    by_cases h : y.ds = D
    · simp only [h, decide_true, if_true, List.map_cons, ih, Itm.key]
    · simp only [h, decide_false, Bool.false_eq_true, if_false, ih, Itm.key]

/-- What the operations of GetAll's line leave. -/
def gaR (g : Nat) (p : Itm) (fv : Value) (j : Nat) (v : Value) (_ : World) : Prop :=
  match j with
  | 3 => v = .agg #[.slice p.A p.ds.length p.c, .string p.S, .int .u64 p.off]
  | 4 => v = p.val
  | 5 => v = fv
  | 0 => v = .pointer (some ⟨g, 0, none⟩)
  | 1 => v = .pointer (some ⟨g, 0, none⟩)
  | 2 => v = .pointer (some ⟨g, 0, none⟩)
  | _ => True



























































































































































































end Go.Proofs.YtgjocdnpephcgaaGreatDoor
namespace Go.Proofs.YtgjocdnpephcgaaGreatDoor
open Go.RowKit

def txNf : List UInt8 := [110, 111, 116, 32, 102, 111, 117, 110, 100]



























/-- What impl.IiAll hands back. -/
def IaEnd (xs : List Nat) (most : Nat) (w : World) (e : Ending) (w' : World) : Prop :=
  (∃ A cap base, e = .returned (.tuple #[.slice A (xs.take most).length cap, .int .u8 ((if xs = [] then 1 else 0 : Nat) : Int)]) ∧ w.heap.size ≤ base ∧ w'.ownsRow base 23 1 (.slice A (xs.take most).length cap) (xs.take most).length ((xs.take most).map fun (y : Nat) => Value.int .u64 (y : Int))) ∧ Below w.heap.size w w'
/-- What the operations of its last line leave. -/
def iaR (v ev : Value) (k : Nat) (j : Nat) (u : Value) (_ : World) : Prop :=
  match j with
  | 0 => u = v
  | 1 => u = ev
  | 2 => u = .int .u8 (k : Int)
  | 3 => u = v
  | 4 => u = .int .u8 (k : Int)
  | _ => True
































































































































end Go.Proofs.YtgjocdnpephcgaaGreatDoor
