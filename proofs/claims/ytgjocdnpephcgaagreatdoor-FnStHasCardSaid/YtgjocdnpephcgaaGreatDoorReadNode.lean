/- The walk of util.ReadNode over a bytes.Reader. -/
import Derived.Test.YtgjocdnpephcgaaGreatDoorLdImpl
import Derived.Test.YtgjocdnpephcgaaGreatDoorReadBlock
namespace Go.Proofs.YtgjocdnpephcgaaGreatDoor
open Go.RowKit

/-- An error that is not io.EOF: one of errors.New with another text, or one of another type. -/
def OtherErr (v : Value) (w : World) : Prop := NotEof v w ∨ ∃ T u, T ≠ 135 ∧ v = .iface T u
theorem OtherErr.below {v : Value} {w w1 : World} (h : OtherErr v w) (hb : Below w.heap.size w w1) : OtherErr v w1 := h.imp (·.below hb) id
theorem OtherErr.iface {v : Value} {w : World} (h : OtherErr v w) : ∃ T u, v = .iface T u := by
  rcases h with ⟨t, _, h⟩ | ⟨T, u, _, rfl⟩
  · exact h.iface
  · exact ⟨_, _, rfl⟩
theorem eql_types {ti : TypeId} {ms : Array (String × TypeId)} {T T' : TypeId} (u u' : Value) (h : T ≠ T') (hi : Tryz.prog.underlying ti = some (.interface ms)) (w : World) : (binOp .eql ti (.iface T u) (.iface T' u')).run Tryz.prog w = .ok (.bool false) w := by
  have h2 : ∀ d : Nat, (Op.equalIn (d + 1) ti (.iface T u) (.iface T' u')).run Tryz.prog w = .ok false w := fun d => by
    simp [Op.equalIn, run_underlying hi, h]
  simp only [binOp]
  simp [Op.equal, Op.maxDepth, h2 9999]















theorem Ex.ext {P Q : Nat → Prop} {w w1 w2 : World} (h : Ex P w w1) (k : Ex Q w1 w2) (hq : ∀ j, j < w.heap.size → Q j → P j) : Ex P w w2 :=
  ⟨k.os.trans h.os, k.tape.trans h.tape, k.output.trans h.output, Nat.le_trans h.size k.size, fun i hi hp => (k.block i (Nat.lt_of_lt_of_le hi h.size) (fun x => hp (hq i hi x))).trans (h.block i hi hp)⟩
/-- A store of what is there already. -/
theorem bel_same {w : World} {r : Nat} {v : Value} {t : TypeId} (h : w.heap[r]? = some (.cells #[v] t (0, 0))) : Below w.heap.size w (w.setCell ⟨r, 0, none⟩ v) := by
  have hb := (Below.refl r w).setCell (p := ⟨r, 0, none⟩) (Nat.le_refl _) v
  refine ⟨hb.os, hb.tape, hb.output, hb.size, fun k hk => ?_⟩
  by_cases he : k = r
  · subst he; rw [h, blk_set h 0 v]; rfl
  · exact Below.heap_setCell w ⟨r, 0, none⟩ v k he

/-- Bytes do not lie in a block that holds a string. -/
theorem RdB.exS {P : Nat → Prop} {w w1 : World} {A : Option Addr} {n c : Nat} {bs : List UInt8} (h : RdB w A n c bs) (hb : Ex P w w1) (hp : ∀ k, P k → ∃ S t, w.heap[k]? = some (.cells #[.string S] t (0, 0))) : RdB w1 A n c bs :=
  ⟨h.len, h.cap, h.most, fun h0 => by
    obtain ⟨g', o', e, hc⟩ := h.lies h0
    refine ⟨g', o', e, fun i hi => (World.cell?_of_block (a := ⟨g', o' + i, none⟩) (hb.block g' (World.block_lt_of_cell? w _ (hc i hi)) fun hP => ?_)).trans (hc i hi)⟩
    obtain ⟨S, t, hblk⟩ := hp g' hP
    have h1 := hc i hi
    rw [blk_cell hblk (o' + i)] at h1
    generalize o' + i = oi at h1
    rcases oi with _ | m
    · simp at h1
    · simp at h1⟩












/-- What the last line's operations leave. -/
def rnR (r : Nat) (S : ByteArray) (A A' : Option Addr) (m cap k : Nat) (j : Nat) (v : Value) (w : World) : Prop :=
  match j with
  | 0 => v = .agg #[.string S]
  | 1 => v = .slice A m cap
  | 2 => v = .int .i64 k
  | 3 => v = .slice A' (m - k) (cap - k)
  | 4 => w.heap[r]? = some (.cells #[.string S] 45 (0, 0))
  | 5 => v = .slice A' (m - k) (cap - k)
  | 6 => v = .nilIface
  | _ => True




































































































































































end Go.Proofs.YtgjocdnpephcgaaGreatDoor
