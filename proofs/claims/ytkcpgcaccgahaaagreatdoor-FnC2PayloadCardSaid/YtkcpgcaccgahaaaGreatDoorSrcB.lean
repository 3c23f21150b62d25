/- A bytes.Reader as a reader by its interface. -/
import Derived.Test.YtkcpgcaccgahaaaGreatDoorSrcA
import Derived.Test.YtkcpgcaccgahaaaGreatDoorLdA
namespace Go.Proofs.YtkcpgcaccgahaaaGreatDoor
open Go.RowKit

/-- The state of a bytes.Reader that stood at place i, k bytes on; all blocks of w0 stand as they stood. -/
structure BrS (w0 : World) (g ga n c i : Nat) (bs : List UInt8) (k : Nat) (w : World) : Prop where
  old : Below w0.heap.size w0 w
  at_ : ∃ q, RdrAt w g ga n c (i + k) q
  rd : RdB w (some ⟨ga, 0, none⟩) n c bs
  len : i + k ≤ n
def brD (w0 : World) (g ga : Nat) (x : Nat) : Prop := x < w0.heap.size ∨ x = g ∨ x = ga
theorem BrS.lt {w0 : World} {g ga n c i : Nat} {bs : List UInt8} {k : Nat} {w : World} (h : BrS w0 g ga n c i bs k w) (hag : ga < g) : ∀ x, brD w0 g ga x → x < w.heap.size := by
  obtain ⟨q, hq⟩ := h.at_
  have h1 := (Array.getElem?_eq_some_iff.1 hq).1
  have h2 := h.old.size
  rintro x (hx | rfl | rfl) <;> omega
theorem BrS.frame {w0 : World} {g ga n c i : Nat} {bs : List UInt8} {k : Nat} {w w' : World} (h : BrS w0 g ga n c i bs k w) (he : Ex (fun x => ¬ brD w0 g ga x) w w') : BrS w0 g ga n c i bs k w' := by
  obtain ⟨q, hq⟩ := h.at_
  exact ⟨h.old.trans (he.toBelow (fun x hx hn => hn (.inl hx)) h.old.size), ⟨q, he.keep hq (fun hn => hn (.inr (.inl rfl)))⟩, h.rd.ex he (fun hn => hn (.inr (.inr rfl))), h.len⟩
theorem BrS.start {w0 : World} {g ga n c i : Nat} {q : Int} {bs : List UInt8} {w : World} (hb : Below w0.heap.size w0 w) (hg : RdrAt w g ga n c i q) (hr : RdB w (some ⟨ga, 0, none⟩) n c bs) (hi : i ≤ n) : BrS w0 g ga n c i bs 0 w := ⟨hb, ⟨q, hg⟩, hr, hi⟩

/-- A bytes.Reader. -/
theorem srcB (g ga n c i : Nat) (bs : List UInt8) (ve vu vo vn : Value) (w0 : World) (he : RdErrs ve vu vo vn w0) (hg : w0.heap.size ≤ g) (hag : ga < g) (hn : n ≤ 4611686018427387904) :
    Src 104 (.pointer (some ⟨g, 0, none⟩)) 224 (bs.drop i) ve vu vo vn (· = g) (brD w0 g ga) (BrS w0 g ga n c i bs) := by
  refine ⟨fun _ => by kernel_rfl, fun _ => by kernel_rfl, enters_of Tryz.func224 (by kernel_rfl) rfl, ?_, fun k w w' h hx => h.frame hx, fun k w h => he.below h.old, fun k w h => h.lt hag, fun x hx => .inr (.inl hx)⟩
  intro k w gd t cs o m cm hS hD hd hos hmc hm0 hm
  obtain ⟨q, hq⟩ := hS.at_
  have hl := hS.rd.len
  have hik := hS.len
  have hne : g ≠ gd ∧ ga ≠ gd := ⟨fun e => hD (.inr (.inl e.symm)), fun e => hD (.inr (.inr e.symm))⟩
  have hlen : (bs.drop i).length - k = n - (i + k) := by rw [List.length_drop]; omega
  by_cases ha : n ≤ i + k
  · have hc := (he.below hS.old).eof
    refine (readEnd_calls g ga n c (i + k) q _ m cm ve w hq ha hc).mono ?_
    rintro e w' ⟨rfl, h1, h2⟩
    have hbel : Ex (fun x => x = g ∨ x = gd) w w' := Ex.of_below h2
    refine ⟨0, ve, by omega, rfl, .inr ⟨rfl, hm0⟩, ⟨hS.old.trans (h2.mono hS.old.size), ⟨q, h1⟩, hS.rd.below h2, hS.len⟩, blk_keep hd h2, hbel⟩
  · refine (readN_calls g ga gd n c o m cm (min m (n - (i + k))) (i + k) q bs cs w hq hS.rd hag hne hd hos (by omega) (by omega) (by omega) (by omega) hm hn).mono ?_
    rintro e w' ⟨⟨rfl, h1, h2⟩, h3⟩
    have hgd0 : ¬ gd < w0.heap.size := fun e => hD (.inl e)
    refine ⟨min m (n - (i + k)), .nilIface, by rw [hlen], rfl, .inl ⟨rfl, by omega⟩, ⟨hS.old.trans (h3.toBelow (fun x hx hn => by rcases hn with rfl | rfl <;> omega) hS.old.size), ⟨-1, by rw [← Nat.add_assoc]; exact h1⟩, hS.rd.ex h3 (by omega), by omega⟩, ?_, h3⟩
    rw [List.drop_drop]
    exact h2
/-- Its ReadByte. -/
theorem bytB (g ga n c i : Nat) (bs : List UInt8) (ve vu vo vn : Value) (w0 : World) (he : RdErrs ve vu vo vn w0) (hg : w0.heap.size ≤ g) (hag : ga < g) (hn : n ≤ 4611686018427387904) :
    Byt 104 (.pointer (some ⟨g, 0, none⟩)) 226 (bs.drop i) ve (· = g) (BrS w0 g ga n c i bs) := by
  have hlt : 0 < g := Nat.lt_of_lt_of_le (World.block_lt_of_cell? w0 _ he.eof) hg
  have hnx : ∀ {w w' : World}, Ex (· = g) w w' → Below w0.heap.size w0 w → Below w0.heap.size w0 w' := fun h hb => hb.trans (h.toBelow (fun x hx hn => by omega) hb.size)
  refine ⟨fun _ => by kernel_rfl, enters_of Tryz.func226 (by kernel_rfl) rfl, ?_, ?_⟩
  · intro k w b hS hb
    obtain ⟨q, hq⟩ := hS.at_
    rw [List.getElem?_drop] at hb
    have hlen := (List.getElem?_eq_some_iff.1 hb).1
    have hl := hS.rd.len
    refine (rdByte_calls g ga n c (i + k) q bs w hq hS.rd hag b hb hn).mono ?_
    rintro e w2 ⟨rfl, h3, h4⟩
    exact ⟨rfl, ⟨hnx h4 hS.old, ⟨-1, h3⟩, hS.rd.ex h4 (by omega), by omega⟩, h4⟩
  · intro k w hS hb
    obtain ⟨q, hq⟩ := hS.at_
    rw [List.getElem?_drop, List.getElem?_eq_none_iff] at hb
    have hl := hS.rd.len
    refine (rdByteEnd_calls g ga n c (i + k) q ve w hq (by omega) (he.below hS.old).eof hlt).mono ?_
    rintro e w2 ⟨rfl, h3, h4⟩
    exact ⟨⟨0, rfl⟩, ⟨hnx h4 hS.old, ⟨-1, h3⟩, hS.rd.ex h4 (by omega), hS.len⟩, h4⟩

/-- A reader of bytes by this interface is one of the elder one. -/
theorem byteRdr_byt {T : TypeId} {pv : Value} {fr fb : FuncId} {bs : List UInt8} {ve vu vo vn : Value} {O D : Nat → Prop} {S : Nat → World → Prop} (H : Src T pv fr bs ve vu vo vn O D S) (HB : Byt T pv fb bs ve O S) (w : World) :
    ByteRdr T pv fb bs ve vu vo vn (fun k w' => S k w' ∧ Ex O w w') := by
  refine ⟨HB.meth, HB.enter, ?_, ?_, fun k w' h => H.errs k w' h.1, fun k w' n h => ⟨H.drew h.1 n, h.2.drewN n⟩⟩
  · rintro k w' b _ ⟨h1, h2⟩ hb
    refine (HB.byte k w' b h1 hb).mono ?_
    rintro e w2 ⟨rfl, h3, h4⟩
    exact ⟨rfl, h3, h2.trans h4⟩
  · rintro k w' ⟨h1, h2⟩ hb
    refine (HB.fin k w' h1 hb).mono ?_
    rintro e w2 ⟨hz, h3, h4⟩
    exact ⟨hz, h3, h2.trans h4⟩

end Go.Proofs.YtkcpgcaccgahaaaGreatDoor
