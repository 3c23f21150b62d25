/- The walk of cid.CidFromReader over a bytes.Reader: where bytes begin with an identifier it hands that back, and how many bytes it has; else an error. -/
import Derived.Test.YtldhnabhojfmiaaDoorRCrd1
import Derived.Test.YtldhnabhojfmiaaDoorRCrd2
import Derived.Test.YtldhnabhojfmiaaDoorRCrd5
import Derived.Test.YtldhnabhojfmiaaDoorRCrd6
import Derived.Test.YtldhnabhojfmiaaDoorRCrd7
import Derived.Test.YtldhnabhojfmiaaDoorRCrd8
namespace Go.Proofs.YtldhnabhojfmiaaDoorR
open Go.RowKit

theorem crd_nv {bs : List UInt8} {x k : Nat} (h : uvRead bs = some (x, k)) (h1 : x ≠ 1) (h18 : x ≠ 18) : cdRead bs = none := by
  have hz : ¬ cdZero bs := fun hz => by rw [cdz_uv hz] at h; simp at h; omega
  exact cd_none2 hz h h1

/-- cid.CidFromReader. -/
theorem cidReader_calls (g ga n c : Nat) (q : Int) (bs : List UInt8) (ve vu vo vn : Value) (w : World) (hg : RdrAt w g ga n c 0 q) (hr : RdB w (some ⟨ga, 0, none⟩) n c bs) (hag : ga < g) (hn : n ≤ 33554432) (hlt : 2 < g) (hlu : 1 < g) (he : ∀ w', Ex (· = g) w w' → RdErrs ve vu vo vn w') (hc : ∀ w', Ex (· = g) w w' → CdErrs w') :
    Calls Tryd.prog 36 #[.iface 77 (.pointer (some ⟨g, 0, none⟩))] w fun e w' => CrdEnd g bs ve w e w' := by
  have hlen := hr.len
  cases hrd : uvRead bs with
  | none => exact crd_none g ga n c q bs ve vu vo vn w hg hr hag hn hlt hlu he hc hrd
  | some p =>
    obtain ⟨x1, k⟩ := p
    by_cases h18 : x1 = 18
    · subst h18
      obtain ⟨e1, e2, _⟩ := uvRead_inv hrd
      rw [Lib.uvarint_small (by omega)] at e2
      obtain rfl : 1 = k := by simpa using e2
      by_cases h34 : 34 ≤ n
      · exact crd_v0 g ga n c q bs ve vu vo vn w hg hr hag hn hlt hlu he hc hrd h34
      · exact crd_v0s g ga n c q bs ve vu vo vn w hg hr hag hn hlt hlu he hc hrd (by omega)
    · by_cases h1 : x1 = 1
      · subst h1
        have hk := uvRead_some hrd
        cases h2 : uvRead (bs.drop k) with
        | none => exact crd_c g ga n c q bs ve vu vo vn w hg hr hag hn hlt hlu he hc k hrd h2
        | some p =>
          obtain ⟨codec, m⟩ := p
          have hm := uvRead_some h2
          rw [List.length_drop] at hm
          cases h3 : uvRead (bs.drop (k + m)) with
          | none => exact crd_h g ga n c q bs ve vu vo vn w hg hr hag hn hlt hlu he hc k hrd m codec h2 h3
          | some p =>
            obtain ⟨code, m2⟩ := p
            have hm2 := uvRead_some h3
            rw [List.length_drop] at hm2
            cases h4 : uvRead (bs.drop (k + m + m2)) with
            | none => exact crd_l g ga n c q bs ve vu vo vn w hg hr hag hn hlt hlu he hc k hrd m codec h2 m2 code h3 h4
            | some p =>
              obtain ⟨x, m3⟩ := p
              have hm3 := uvRead_some h4
              rw [List.length_drop] at hm3
              by_cases hx : x ≤ 33554432
              · by_cases hf : k + m + m2 + m3 + x ≤ 64
                · by_cases hxn : k + m + m2 + m3 + x ≤ n
                  · by_cases h0 : x = 0
                    · exact crd_f0 g ga n c q bs ve vu vo vn w hg hr hag hn hlt hlu he hc k hrd m codec h2 (k + m) rfl m2 code h3 (k + m + m2) rfl x m3 h4 (k + m + m2 + m3) rfl (by omega) (by omega) hx hf h0
                    · exact crd_f1 g ga n c q bs ve vu vo vn w hg hr hag hn hlt hlu he hc k hrd m codec h2 (k + m) rfl m2 code h3 (k + m + m2) rfl x m3 h4 (k + m + m2 + m3) rfl (by omega) (by omega) hx hf (by omega) hxn
                  · by_cases h1n : k + m + m2 + m3 < n
                    · exact crd_f2 g ga n c q bs ve vu vo vn w hg hr hag hn hlt hlu he hc k hrd m codec h2 (k + m) rfl m2 code h3 (k + m + m2) rfl x m3 h4 (k + m + m2 + m3) rfl (by omega) (by omega) hx hf h1n (by omega)
                    · exact crd_f3 g ga n c q bs ve vu vo vn w hg hr hag hn hlt hlu he hc k hrd m codec h2 (k + m) rfl m2 code h3 (k + m + m2) rfl x m3 h4 (k + m + m2 + m3) rfl (by omega) (by omega) hx hf (by omega) (by omega)
                · by_cases hxn : k + m + m2 + m3 + x ≤ n
                  · exact crd_g1 g ga n c q bs ve vu vo vn w hg hr hag hn hlt hlu he hc k hrd m codec h2 (k + m) rfl m2 code h3 (k + m + m2) rfl x m3 h4 (k + m + m2 + m3) rfl (by omega) (by omega) hx (by omega) (by omega) hxn
                  · by_cases h1n : k + m + m2 + m3 < n
                    · exact crd_g2 g ga n c q bs ve vu vo vn w hg hr hag hn hlt hlu he hc k hrd m codec h2 (k + m) rfl m2 code h3 (k + m + m2) rfl x m3 h4 (k + m + m2 + m3) rfl (by omega) (by omega) hx (by omega) h1n (by omega)
                    · exact crd_g3 g ga n c q bs ve vu vo vn w hg hr hag hn hlt hlu he hc k hrd m codec h2 (k + m) rfl m2 code h3 (k + m + m2) rfl x m3 h4 (k + m + m2 + m3) rfl (by omega) (by omega) hx (by omega) (by omega) (by omega)
              · exact crd_big g ga n c q bs ve vu vo vn w hg hr hag hn hlt hlu he hc k hrd m codec h2 (k + m) rfl m2 code h3 (k + m + m2) rfl x m3 h4 (k + m + m2 + m3) rfl (by omega) (by omega) (by omega)
      · exact crd_ver g ga n c q bs ve vu vo vn w hg hr hag hn hlt hlu he hc x1 k hrd h1 h18 (crd_nv hrd h1 h18)

/-- What the walks of readers of identifiers need of the package-level variables. -/
structure CaErrs (w : World) : Prop where
  rd : ∃ ve vu vo vn, RdErrs ve vu vo vn w
  cd : CdErrs w
theorem CaErrs.below {w w1 : World} (h : CaErrs w) (hb : Below w.heap.size w w1) : CaErrs w1 := by
  obtain ⟨⟨ve, vu, vo, vn, h1⟩, h2⟩ := h
  exact ⟨⟨ve, vu, vo, vn, h1.below hb⟩, h2.below hb⟩

/-- What impl.CdReader hands back. -/
def CreEnd (bs : List UInt8) (e : Ending) : Prop :=
  match cdRead bs with
  | some (v, codec, code, d, n) => e = .returned (.tuple #[.agg #[.int .u64 v, .int .u64 codec, .int .u64 code, .string (strB d)], .int .i64 n, .int .u8 0])
  | none => ∃ z : Int, e = .returned (.tuple #[.agg #[.int .u64 0, .int .u64 0, .int .u64 0, .string ⟨#[]⟩], .int .i64 z, .int .u8 1]) ∨ e = .returned (.tuple #[.agg #[.int .u64 0, .int .u64 0, .int .u64 0, .string ⟨#[]⟩], .int .i64 z, .int .u8 2])

/-- impl.kind of what cid.CidFromReader hands back. -/
theorem kindCrd_calls (ve v : Value) (w : World) (hk : v = ve ∨ ∃ u, v = .iface 117 u) (hc : w.cell? ⟨2, 0, none⟩ = some ve) (hE : ErrV ve txEof w) :
    Calls Tryd.prog 38 #[v] w fun e w' => (e = .returned (.int .u8 1) ∨ e = .returned (.int .u8 2)) ∧ Below w.heap.size w w' := by
  rcases hk with rfl | ⟨u, rfl⟩
  · refine (kind_calls v v 1 w (.inr (.inl ⟨rfl, rfl⟩)) hc hE).mono ?_
    rintro e w1 ⟨rfl, hb⟩
    exact ⟨.inl rfl, hb⟩
  · refine (kindOther_calls ve _ w (.inr ⟨_, u, by decide, rfl⟩) hc hE).mono ?_
    rintro e w1 ⟨rfl, hb⟩
    exact ⟨.inr rfl, hb⟩

set_option maxHeartbeats 8000000 in
set_option maxRecDepth 100000 in
/-- impl.CdReader. -/
theorem cdReader_calls (s : ByteArray) (w : World) (hs : s.size ≤ 33554432) (he : CaErrs w) :
    Calls Tryd.prog 17 #[.string s] w fun e w' => CreEnd (bl s) e ∧ Below w.heap.size w w' := by
  have hkb := fun W => Lib.run_convert_string_bytes (P := Tryd.prog) W 9 71 5 s Tryd.underlying9 Tryd.underlying71 Tryd.underlying5
  obtain ⟨ve, vu, vo, vn, hre⟩ := he.rd
  have heof := World.block_lt_of_cell? w _ hre.eof
  obtain ⟨su, hsu⟩ := he.cd.undef
  have hund := World.block_lt_of_cell? w _ hsu
  have HX := Kp.mk hs
  have HE := Kp.mk (And.intro hre (And.intro he.cd (And.intro heof hund)))
  clear hs he hre heof hsu hund
  go_enter Tryd.func17, Tryd.ntmps17
  go_wp2_with fail
  generalize hW0 : w.alloc _ = W0
  have hr0 : W0.heap[w.heap.size]? = some (.cells #[.int .u64 0, .int .u64 0, .int .u64 0, .string ⟨#[]⟩] 25 (0, 0)) := by rw [← hW0]; exact blk_new (Below.refl _ _)
  have hb0 : Below w.heap.size w W0 := by rw [← hW0]; exact bel_alloc (Below.refl _ _) _
  have hs0 : W0.heap.size = w.heap.size + 1 := by rw [← hW0]; simp [World.alloc, -World.alloc_eq]
  have hrd := rd_bytes W0 5 s (by have := HX.out; omega)
  rw [hs0] at hrd
  generalize hgc : grownCap W0 s.size 0 5 = gc at *
  have hb1 : Below W0.heap.size W0 (Lib.bytesWorld W0 5 s) := bel_bytes (Below.refl _ _) _ _
  have hsz1 : (Lib.bytesWorld W0 5 s).heap.size = w.heap.size + 1 + 1 := by rw [Lib.bytesWorld_size, hs0]
  generalize hW1 : Lib.bytesWorld W0 5 s = W1 at *
  refine (mkRdr_calls _ _ _ _).mono ?_
  rintro e1 w2 ⟨rfl, hw2⟩
  have hb2 : Below W1.heap.size W1 w2 := by rw [hw2]; exact bel_alloc (Below.refl _ _) _
  have hg2 : RdrAt w2 (w.heap.size + 1 + 1) (w.heap.size + 1) s.size gc 0 (-1) := by rw [hw2, ← hsz1]; simp [RdrAt, World.alloc, -World.alloc_eq]
  rw [hsz1]
  have hB2 := bel_then (bel_then hb0 hb1) hb2
  have hup : ∀ w', Ex (· = w.heap.size + 1 + 1) w2 w' → Below w.heap.size w w' := fun w' h => hB2.trans (h.toBelow (fun k hk e => by omega) hB2.size)
  have HF := Kp.mk (cidReader_calls (w.heap.size + 1 + 1) (w.heap.size + 1) s.size gc (-1) (bl s) ve vu vo vn w2 hg2 (hrd.below hb2) (by omega) HX.out (by have := HE.out.2.2.1; exact Nat.lt_succ_of_lt (Nat.lt_succ_of_lt this)) (by have := HE.out.2.2.2; exact Nat.lt_succ_of_lt (Nat.lt_succ_of_lt this))
    (fun w' h => HE.out.1.below (hup w' h)) (fun w' h => HE.out.2.1.below (hup w' h)))
  have HR2 := Kp.mk (blk_keep (blk_keep hr0 hb1) hb2)
  have HUP := Kp.mk hup
  clear hkb hW0 hr0 hb0 hrd hb1 hsz1 hgc hW1 hw2 hb2 hg2 hB2 hup hs0
  go_wp2_with fail
  refine HF.out.mono ?_
  rintro e w3 ⟨hx3, hu⟩
  have HR3 := Kp.mk (hx3.keep HR2.out (by omega))
  have HB3 := Kp.mk (HUP.out w3 hx3)
  clear hx3 HF HR2 HUP
  cases hm : cdRead (bl s) with
  | none =>
    rw [hm] at hu
    obtain ⟨z, s1, T, u, rfl, hk⟩ := hu
    have HN := Kp.mk hm
    have HK := Kp.mk (fun W (h : Below w.heap.size w W) => kindCrd_calls ve (.iface T u) W (hk.imp id (fun e => ⟨u, by rw [e]⟩)) (HE.out.1.below h).eof (HE.out.1.below h).eofE)
    have HB3' := Kp.mk (fun o => bel_alloc HB3.out o)
    clear hm hk
    go_wp2_with fail
    refine (HK.out _ (HB3'.out _)).mono ?_
    rintro e w4 ⟨hv, hb⟩
    have HR4 := Kp.mk (blk_keep (blk_keep HR3.out (bel_alloc (Below.refl _ _) _)) hb)
    have HB4 := Kp.mk (bel_then (HB3'.out _) hb)
    have hb0 := blk_cell HR4.out 0
    have hf0 := blk_frozen HR4.out 0
    have hb1 := blk_cell HR4.out 1
    have hf1 := blk_frozen HR4.out 1
    have hb2 := blk_cell HR4.out 2
    have hf2 := blk_frozen HR4.out 2
    have hb3 := blk_cell HR4.out 3
    have hf3 := blk_frozen HR4.out 3
    clear hb HK HB3'
    rcases hv with rfl | rfl
    · go_wp2_with fail
      refine bodyPost_ret (res_cell3 rfl _ _ w.heap.size 25 #[.int .u64 0, .int .u64 0, .int .u64 0, .string ⟨#[]⟩] _ rfl (blk_set (blk_set (blk_set (blk_set HR4.out 0 _) 1 _) 2 _) 3 _) Tryd.underlying25 rfl (by kernel_rfl)) rfl ?_
      refine ⟨by unfold CreEnd; rw [HN.out]; exact ⟨z, .inl rfl⟩, ?_⟩
      exact bel_set (bel_set (bel_set (bel_set HB4.out (Nat.le_refl _) _) (Nat.le_refl _) _) (Nat.le_refl _) _) (Nat.le_refl _) _
    · go_wp2_with fail
      refine bodyPost_ret (res_cell3 rfl _ _ w.heap.size 25 #[.int .u64 0, .int .u64 0, .int .u64 0, .string ⟨#[]⟩] _ rfl (blk_set (blk_set (blk_set (blk_set HR4.out 0 _) 1 _) 2 _) 3 _) Tryd.underlying25 rfl (by kernel_rfl)) rfl ?_
      refine ⟨by unfold CreEnd; rw [HN.out]; exact ⟨z, .inr rfl⟩, ?_⟩
      exact bel_set (bel_set (bel_set (bel_set HB4.out (Nat.le_refl _) _) (Nat.le_refl _) _) (Nat.le_refl _) _) (Nat.le_refl _) _
  | some p =>
    obtain ⟨v, codec, code, d, n⟩ := p
    rw [hm] at hu
    obtain rfl : e = _ := hu
    have HN := Kp.mk hm
    have HO := Kp.mk (fun w => cidOutRead_calls (bl s) v codec code n d w hm (by rw [bl_length]; have := HX.out; omega))
    clear hm
    go_wp2_with fail
    have HE3 := Kp.mk (fun ob => ((HE.out.2.1.below HB3.out).mh).below (bel_alloc (Below.refl _ _) ob))
    refine (HO.out _ (HE3.out _)).mono ?_
    rintro e w4 ⟨rfl, hb⟩
    have HR4 := Kp.mk (blk_keep HR3.out (bel_new hb))
    have HB4 := Kp.mk (bel_then HB3.out (bel_new hb))
    clear hb HO HE3
    have hb0 := blk_cell HR4.out 0
    have hf0 := blk_frozen HR4.out 0
    have hb1 := blk_cell HR4.out 1
    have hf1 := blk_frozen HR4.out 1
    have hb2 := blk_cell HR4.out 2
    have hf2 := blk_frozen HR4.out 2
    have hb3 := blk_cell HR4.out 3
    have hf3 := blk_frozen HR4.out 3
    go_wp2_with fail
    refine bodyPost_ret (res_cell3 rfl _ _ w.heap.size 25 #[.int .u64 v, .int .u64 codec, .int .u64 code, .string (strB d)] _ rfl (blk_set (blk_set (blk_set (blk_set HR4.out 0 _) 1 _) 2 _) 3 _) Tryd.underlying25 rfl (by kernel_rfl)) rfl ?_
    refine ⟨by unfold CreEnd; rw [HN.out]; rfl, ?_⟩
    exact bel_set (bel_set (bel_set (bel_set HB4.out (Nat.le_refl _) _) (Nat.le_refl _) _) (Nat.le_refl _) _) (Nat.le_refl _) _

end Go.Proofs.YtldhnabhojfmiaaDoorR
