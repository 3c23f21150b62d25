/- The walks of cid's reader that keeps what it reads: toBufByteReader, its ReadByte, and it as a reader of bytes. -/
import Derived.Test.YtldhnabhojfmiaaDoorRRdFullG
import Derived.ArgAppend
import Derived.Lib.AppendZerosOnto
namespace Go.Proofs.YtldhnabhojfmiaaDoorR
open Go.RowKit

/-- The cells of such a reader. -/
def bufCs (g d L : Nat) : Array Value := #[.iface 77 (.pointer (some ⟨g, 0, none⟩)), .nilIface, .slice (some ⟨d, 0, none⟩) L 64]

set_option maxHeartbeats 800000 in
set_option maxRecDepth 100000 in
theorem toBuf_calls (g d : Nat) (w : World) :
    Calls Tryd.prog 62 #[.iface 77 (.pointer (some ⟨g, 0, none⟩)), .slice (some ⟨d, 0, none⟩) 0 64] w fun e w' => e = .returned (.pointer (some ⟨w.heap.size, 0, none⟩)) ∧ w' = w.alloc (.cells (bufCs g d 0) 131) := by
  have hta : ∀ W, (Instr.typeAssert (.iface 77 (.pointer (some ⟨g, 0, none⟩))) 123 129 true).run Tryd.prog W = .ok (.tuple #[.iface 77 (.pointer (some ⟨g, 0, none⟩)), .bool true]) W := fun _ => by kernel_rfl
  go_enter Tryd.func62, Tryd.ntmps62
  go_wp2
  go_ret
  exact ⟨rfl, rfl⟩

/-- Where such a reader is, with L bytes read. -/
structure CrAt (g ga n c b d L : Nat) (bs : List UInt8) (w0 w : World) : Prop where
  rdr : ∃ q, RdrAt w g ga n c L q
  buf : w.heap[b]? = some (.cells (bufCs g d L) 131 (0, 0))
  dst : ∃ cs : Array Value, w.heap[d]? = some (.cells cs 5 (0, 0)) ∧ cs.size = 64 ∧ ∀ j, j < L → cs[j]? = (bs[j]?).map (fun x => Value.int .u8 (x.toNat : Int))
  ex : Ex (fun x => x = g ∨ x = b ∨ x = d) w0 w
theorem CrAt.below {g ga n c b d L : Nat} {bs : List UInt8} {w0 w w1 : World} (h : CrAt g ga n c b d L bs w0 w) (hb : Below w.heap.size w w1) : CrAt g ga n c b d L bs w0 w1 := by
  obtain ⟨⟨q, h1⟩, h2, ⟨cs, h3, h4⟩, h5⟩ := h
  exact ⟨⟨q, blk_keep h1 hb⟩, blk_keep h2 hb, ⟨cs, blk_keep h3 hb, h4⟩, h5.trans (Ex.of_below hb)⟩

theorem append_one (W : World) (d L p : Nat) (x : UInt8) (cs : Array Value) (hd : W.heap[d]? = some (.cells cs 5 (0, 0))) (hs : cs.size = 64) (hL : L < 64) (hp : W.cell? ⟨p, 0, none⟩ = some (.int .u8 (x.toNat : Int))) :
    (Builtin.append_ #[71, 71] 71 #[.slice (some ⟨d, 0, none⟩) L 64, .slice (some ⟨p, 0, none⟩) 1 1]).run Tryd.prog W = .ok (.slice (some ⟨d, 0, none⟩) (L + 1) 64) (W.setCell ⟨d, L, none⟩ (.int .u8 (x.toNat : Int))) := by
  obtain ⟨i, hi, _, hs1, _⟩ := info_parts info_u8
  have h := run_append_room_cells (P := Tryd.prog) W 71 71 5 i Tryd.underlying71 hi d 0 L 64 ⟨p, 0, none⟩ 1 1 [.int .u8 (x.toNat : Int)] (by simp [hs1])
    (fun j u hj => by
      match j, hj with
      | 0, hj => simp at hj; subst hj; rw [add_plain]; exact hp)
    (fun u hu => by simp at hu; subst hu; rfl) (by omega)
    (fun j hj => by
      have hj0 : j = 0 := by simpa using hj
      subst hj0
      rw [hs1, blk_cell hd, Array.getElem?_eq_getElem (by omega)]; rfl)
    (fun j hj => blk_frozen hd _)
  rw [h, hs1]
  simp [World.setCells]

set_option maxHeartbeats 2000000 in
set_option maxRecDepth 100000 in
/-- ReadByte of such a reader where a byte is there. -/
theorem bufByte_calls (g ga n c b d L : Nat) (bs : List UInt8) (w0 w : World) (h : CrAt g ga n c b d L bs w0 w) (hr : RdB w0 (some ⟨ga, 0, none⟩) n c bs) (hag : ga < g) (hgd : g < d) (hdb : d < b) (x : UInt8) (hx : bs[L]? = some x) (hL : L < 64) (hn : n ≤ 4611686018427387904) :
    Calls Tryd.prog 121 #[.pointer (some ⟨b, 0, none⟩)] w fun e w' => e = .returned (.tuple #[.int .u8 (x.toNat : Int), .nilIface]) ∧ CrAt g ga n c b d (L + 1) bs w0 w' := by
  obtain ⟨⟨q, h1⟩, h2, ⟨cs, h3, h4, h5⟩, h6⟩ := h
  have hm : ∀ W, (method 302 77 (.pointer (some ⟨g, 0, none⟩)) "ReadByte").run Tryd.prog W = .ok (115, .pointer (some ⟨g, 0, none⟩)) W := fun _ => by kernel_rfl
  have HB := Kp.mk (rdByte_calls g ga n c L q bs w h1 (hr.ex h6 (by omega)) hag x hx hn)
  have c0 : w.cell? ⟨b, 0, none⟩ = some (.iface 77 (.pointer (some ⟨g, 0, none⟩))) := blk_cell h2 0
  have HX := Kp.mk (And.intro h2 (And.intro h3 (And.intro h4 (And.intro h5 h6))))
  have HY := Kp.mk (And.intro hx (And.intro hL (And.intro hgd hdb)))
  clear h1 h2 h3 h4 h5 h6 hr hag hx hL hn
  go_enter Tryd.func121, Tryd.ntmps121
  go_wp2_with fail
  refine HB.out.mono ?_
  rintro e w1 ⟨rfl, hg1, hb1⟩
  have hbuf := hb1.keep HX.out.1 (by omega)
  have hdst := hb1.keep HX.out.2.1 (by omega)
  have hex := HX.out.2.2.2.2.trans (hb1.mono (fun k h => .inl h))
  have hal := bel_alloc (Below.refl w1.heap.size w1) (.cells #[.int .u8 (x.toNat : Int)] 5)
  have hap := append_one (w1.alloc (.cells #[.int .u8 (x.toNat : Int)] 5)) d L w1.heap.size x cs (blk_keep hdst hal) HX.out.2.2.1 HY.out.2.1 (blk_cell (blk_new (w := w1) (Below.refl _ _)) 0)
  have c2 : (w1.alloc (.cells #[.int .u8 (x.toNat : Int)] 5)).cell? ⟨b, 2, none⟩ = some (.slice (some ⟨d, 0, none⟩) L 64) := blk_cell (blk_keep hbuf hal) 2
  have c2' : w1.cell? ⟨b, 2, none⟩ = some (.slice (some ⟨d, 0, none⟩) L 64) := blk_cell hbuf 2
  have hbufA := blk_far (p := ⟨d, L, none⟩) (blk_keep hbuf hal) (by show b ≠ d; omega) (.int .u8 (x.toNat : Int))
  have c3 := blk_cell hbufA 2
  have f3 := blk_frozen hbufA 2
  have HE : Kp (CrAt g ga n c b d (L + 1) bs w0 (((w1.alloc (.cells #[.int .u8 (x.toNat : Int)] 5)).setCell ⟨d, L, none⟩ (.int .u8 (x.toNat : Int))).setCell ⟨b, 2, none⟩ (.slice (some ⟨d, 0, none⟩) (L + 1) 64))) := by
    refine ⟨⟨⟨-1, ?_⟩, ?_, ⟨cs.setIfInBounds L (.int .u8 (x.toNat : Int)), ?_, ?_, ?_⟩, ?_⟩⟩
    · exact blk_far (p := ⟨b, 2, none⟩) (blk_far (p := ⟨d, L, none⟩) (blk_keep hg1 hal) (by show g ≠ d; omega) _) (by show g ≠ b; omega) _
    · exact blk_set hbufA 2 _
    · exact blk_far (p := ⟨b, 2, none⟩) (blk_set (blk_keep hdst hal) L _) (by show d ≠ b; omega) _
    · simp [HX.out.2.2.1]
    · intro j hj
      rw [Array.getElem?_setIfInBounds]
      by_cases hjL : L = j
      · subst hjL
        rw [if_pos rfl, if_pos (by have := HX.out.2.2.1; have := HY.out.2.1; omega), HY.out.1]; rfl
      · rw [if_neg hjL]; exact HX.out.2.2.2.1 j (by omega)
    · exact Ex.setCell (P := fun x => x = g ∨ x = b ∨ x = d) (p := ⟨b, 2, none⟩) (Ex.setCell (P := fun x => x = g ∨ x = b ∨ x = d) (p := ⟨d, L, none⟩) (hex.trans (Ex.of_below hal)) (.inr (.inr rfl)) _) (.inr (.inl rfl)) _
  clear hg1 hb1 hbuf hdst hex hal hbufA HX HB HY
  go_wp2_with (at_builtin; refine Lib.wpList_append_run _ rfl _ _ _ _ rfl _ _ rfl rfl _ _ hap ?_)
  go_ret2
  exact ⟨rfl, HE.out⟩

set_option maxHeartbeats 2000000 in
set_option maxRecDepth 100000 in
/-- ReadByte of such a reader at the end. -/
theorem bufByteEnd_calls (g ga n c b d L : Nat) (bs : List UInt8) (v : Value) (w0 w : World) (h : CrAt g ga n c b d L bs w0 w) (hr : RdB w0 (some ⟨ga, 0, none⟩) n c bs) (hgd : g < d) (hdb : d < b) (hx : bs[L]? = none) (hv : w.cell? ⟨2, 0, none⟩ = some v) (hE : ErrV v txEof w) (hlt : 2 < g) :
    Calls Tryd.prog 121 #[.pointer (some ⟨b, 0, none⟩)] w fun e w' => e = .returned (.tuple #[.int .u8 0, v]) ∧ CrAt g ga n c b d L bs w0 w' := by
  obtain ⟨⟨q, h1⟩, h2, h3, h6⟩ := h
  have hm : ∀ W, (method 302 77 (.pointer (some ⟨g, 0, none⟩)) "ReadByte").run Tryd.prog W = .ok (115, .pointer (some ⟨g, 0, none⟩)) W := fun _ => by kernel_rfl
  have hnL : n ≤ L := by have := hr.len; rw [List.getElem?_eq_none_iff] at hx; omega
  have HB := Kp.mk (rdByteEnd_calls g ga n c L q v w h1 hnL hv hlt)
  have c0 : w.cell? ⟨b, 0, none⟩ = some (.iface 77 (.pointer (some ⟨g, 0, none⟩))) := blk_cell h2 0
  have HX := Kp.mk (And.intro h2 (And.intro h3 h6))
  obtain ⟨Te, ue, rfl⟩ := hE.iface
  have hdb' : b ≠ g := by omega
  have hdg' : d ≠ g := by omega
  clear h1 h2 h3 h6 hr hx hE hv
  go_enter Tryd.func121, Tryd.ntmps121
  go_wp2_with fail
  refine HB.out.mono ?_
  rintro e w1 ⟨rfl, hg1, hb1⟩
  obtain ⟨cs, hd1, hd2⟩ := HX.out.2.1
  have HE : Kp (CrAt g ga n c b d L bs w0 w1) := ⟨⟨_, hg1⟩, hb1.keep HX.out.1 hdb', ⟨cs, hb1.keep hd1 hdg', hd2⟩, HX.out.2.2.trans (hb1.mono (fun k h => .inl h))⟩
  clear hg1 hb1 hd1 hd2 HX HB
  go_wp2_with fail
  go_ret2
  exact ⟨rfl, HE.out⟩

/-- Such a reader as a reader of bytes. -/
theorem byteRdr_buf (g ga n c b d L : Nat) (bs : List UInt8) (ve vu vo vn : Value) (w0 : World) (hr : RdB w0 (some ⟨ga, 0, none⟩) n c bs) (hag : ga < g) (hgd : g < d) (hdb : d < b) (hn : n ≤ 4611686018427387904) (hlt : 2 < g) (hL : L ≤ 40)
    (he : ∀ w', Ex (fun x => x = g ∨ x = b ∨ x = d) w0 w' → RdErrs ve vu vo vn w') :
    ByteRdr 124 (.pointer (some ⟨b, 0, none⟩)) 121 (bs.drop L) ve vu vo vn (fun k w' => CrAt g ga n c b d (L + k) bs w0 w') := by
  refine ⟨fun _ => by kernel_rfl, enters_of Tryd.func121 (by kernel_rfl) rfl, ?_, ?_, fun k w' h => he w' h.ex, fun k w' n h => h.below (below_self_drewN _ _)⟩
  · intro k w' x hk h hb
    rw [List.getElem?_drop] at hb
    exact bufByte_calls g ga n c b d (L + k) bs w0 w' h hr hag hgd hdb x hb (by omega) hn
  · intro k w' h hb
    rw [List.getElem?_drop] at hb
    exact bufByteEnd_calls g ga n c b d (L + k) bs ve w0 w' h hr hgd hdb hb (he w' h.ex).eof (he w' h.ex).eofE hlt

end Go.Proofs.YtldhnabhojfmiaaDoorR
