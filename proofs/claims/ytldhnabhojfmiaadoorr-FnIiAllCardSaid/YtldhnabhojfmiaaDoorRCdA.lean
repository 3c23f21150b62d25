/- Some texts in one: CdRd, CdRd2. -/
import Derived.Test.YtldhnabhojfmiaaDoorRCidFromA
import Derived.Test.YtldhnabhojfmiaaDoorRCidFrom2
import Derived.Test.YtldhnabhojfmiaaDoorRCidFrom3
namespace Go.Proofs.YtldhnabhojfmiaaDoorR
open Go.RowKit

/-- cid.CidFromBytes. -/
theorem cidFrom_calls (A : Option Addr) (n c : Nat) (bs : List UInt8) (w : World) (hr : RdB w A n c bs) (he : CdErrs w) (hn : n ≤ 2147483647) :
    Calls Tryd.prog 35 #[.slice A n c] w fun e w' => CfEnd bs e ∧ Below w.heap.size w w' := by
  by_cases hz : cdZero bs
  · by_cases h34 : n < 34
    · exact cidFrom_short A n c bs w hr he hz h34
    · exact cidFrom_zero A n c bs w hr he hz (by omega)
  have hl := hr.len
  obtain ⟨su, hsu⟩ := he.undef
  have HU0 := Kp.mk hsu
  have HR := Kp.mk hr
  have HE := Kp.mk he
  have HZ := Kp.mk hz
  have HF1 := Kp.mk (fun ob => fromUv_calls A n c bs (w.alloc ob) (hr.below (bel_alloc (Below.refl _ _) ob)) (he.mh.uv.below (bel_alloc (Below.refl _ _) ob)))
  by_cases h2 : n ≤ 2
  · exact cidFrom_oneA A n c bs w su HU0 HR HE HZ hn HF1 h2
  obtain ⟨g, o, rfl, hc⟩ := hr.lies (by omega)
  have hc0 : ∀ ob, (w.alloc ob).cell? ⟨g, o, none⟩ = some (.int .u8 ((bs[0]'(by omega)).toNat : Int)) := fun ob => cell_bel (bel_alloc (Below.refl _ _) ob) (by have h := hc 0 (by omega); rwa [Nat.add_zero] at h)
  have hc1 : ∀ ob, (w.alloc ob).cell? ⟨g, o + 1, none⟩ = some (.int .u8 ((bs[1]'(by omega)).toNat : Int)) := fun ob => cell_bel (bel_alloc (Below.refl _ _) ob) (hc 1 (by omega))
  by_cases b0 : (bs[0]'(by omega)).toNat = 18
  · have b1 : ¬ (bs[1]'(by omega)).toNat = 32 := fun h => hz ⟨by omega, by rw [List.getElem?_eq_getElem (by omega), ← UInt8.toNat_inj.1 (show (18 : UInt8).toNat = _ from b0.symm)], by rw [List.getElem?_eq_getElem (by omega), ← UInt8.toNat_inj.1 (show (32 : UInt8).toNat = _ from h.symm)]⟩
    rw [b0] at hc0
    exact cidFrom_oneB _ n c bs w su HU0 HR HE HZ hn HF1 g o _ rfl (by omega) hc0 hc1 (beq_eq_false_iff_ne.2 (by omega))
  · exact cidFrom_oneC _ n c bs w su HU0 HR HE HZ hn HF1 g o _ rfl (by omega) hc0 (beq_eq_false_iff_ne.2 (by omega))

theorem cdRead_le {bs : List UInt8} {v codec code n : Nat} {d : List UInt8} (h : cdRead bs = some (v, codec, code, d, n)) : n ≤ bs.length ∧ d.length ≤ n := by
  unfold cdRead at h
  split at h
  · split at h
    · cases h
    · simp only [Option.some.injEq, Prod.mk.injEq] at h
      obtain ⟨rfl, rfl, rfl, rfl, rfl⟩ := h
      rw [List.length_take]; omega
  · split at h
    · cases h
    · rename_i v' k h1
      split at h
      · rename_i hv
        subst hv
        split at h
        · cases h
        · rename_i codec' m h2
          split at h
          · cases h
          · rename_i code' d' n' h3
            simp only [Option.some.injEq, Prod.mk.injEq] at h
            obtain ⟨rfl, rfl, rfl, rfl, rfl⟩ := h
            obtain ⟨e1, e2, _⟩ := cd_inv h1 h2 h3
            have e3 := congrArg List.length e1
            rw [List.length_take, e2] at e3
            refine ⟨by omega, ?_⟩
            have e4 : d'.length ≤ (cdBytes codec' code' d').length := by simp only [cdBytes, mhBytes, List.length_cons, List.length_append]; omega
            omega
      · cases h

/-- impl.cidOut of an identifier that is read. -/
theorem cidOutRead_calls (bs : List UInt8) (v codec code n : Nat) (d : List UInt8) (w : World) (h : cdRead bs = some (v, codec, code, d, n)) (hl : bs.length ≤ 2147483647) (he : MhErrs w) :
    Calls Tryd.prog 31 #[.agg #[.string (strB (bs.take n))]] w fun e w' => e = .returned (.agg #[.int .u64 v, .int .u64 codec, .int .u64 code, .string (strB d)]) ∧ Below w.heap.size w w' := by
  unfold cdRead at h
  split at h
  · rename_i hz
    split at h
    · cases h
    · simp only [Option.some.injEq, Prod.mk.injEq] at h
      obtain ⟨rfl, rfl, rfl, rfl, rfl⟩ := h
      rw [cd0_shape hz (by omega)]
      exact cidOut0_calls _ w (by rw [List.length_take, List.length_drop]; omega) he
  · split at h
    · cases h
    · rename_i v' k h1
      split at h
      · rename_i hv
        subst hv
        split at h
        · cases h
        · rename_i codec' m h2
          split at h
          · cases h
          · rename_i code' d' n' h3
            simp only [Option.some.injEq, Prod.mk.injEq] at h
            obtain ⟨rfl, rfl, rfl, rfl, rfl⟩ := h
            obtain ⟨e1, e2, e3, e4, e5, e6, e7⟩ := cd_inv h1 h2 h3
            exact cidOut1_calls _ codec' code' d' m _ w ⟨by rw [bl_strB]; exact e1, by rw [strB_size, List.length_take]; omega, e4, rfl, e5, e6⟩ he
      · cases h

end Go.Proofs.YtldhnabhojfmiaaDoorR
namespace Go.Proofs.YtldhnabhojfmiaaDoorR
open Go.RowKit

/-- What impl.CdRead hands back. -/
def CrEnd (bs : List UInt8) (e : Ending) : Prop :=
  match cdRead bs with
  | some (v, codec, code, d, n) => e = .returned (.tuple #[.agg #[.int .u64 v, .int .u64 codec, .int .u64 code, .string (strB d)], .int .i64 n, .bool true])
  | none => e = .returned (.tuple #[.agg #[.int .u64 0, .int .u64 0, .int .u64 0, .string ⟨#[]⟩], .int .i64 0, .bool false])

set_option maxHeartbeats 4000000 in
set_option maxRecDepth 100000 in
/-- impl.CdRead. -/
theorem cdRd_calls (s : ByteArray) (w : World) (hs : s.size ≤ 2147483647) (he : CdErrs w) :
    Calls Tryd.prog 16 #[.string s] w fun e w' => CrEnd (bl s) e ∧ Below w.heap.size w w' := by
  have hkb := fun W => Lib.run_convert_string_bytes (P := Tryd.prog) W 9 71 5 s Tryd.underlying9 Tryd.underlying71 Tryd.underlying5
  have HX := Kp.mk hs
  have HE := Kp.mk he
  clear hs he
  go_enter Tryd.func16, Tryd.ntmps16
  go_wp2_with fail
  generalize hW0 : w.alloc _ = W0
  have hr0 : W0.heap[w.heap.size]? = some (.cells #[.int .u64 0, .int .u64 0, .int .u64 0, .string ⟨#[]⟩] 25 (0, 0)) := by rw [← hW0]; exact blk_new (Below.refl _ _)
  have hb0 : Below w.heap.size w W0 := by rw [← hW0]; exact bel_alloc (Below.refl _ _) _
  have hs0 : W0.heap.size = w.heap.size + 1 := by rw [← hW0]; simp [World.alloc, -World.alloc_eq]
  have hrd := rd_bytes W0 5 s (by have := HX.out; omega)
  rw [hs0] at hrd
  generalize hgc : grownCap W0 s.size 0 5 = gc at *
  have hb1 : Below W0.heap.size W0 (Lib.bytesWorld W0 5 s) := bel_bytes (Below.refl _ _) _ _
  generalize hW1 : Lib.bytesWorld W0 5 s = W1 at *
  have HF := Kp.mk (cidFrom_calls _ _ _ _ W1 hrd (HE.out.below (bel_then hb0 hb1)) HX.out)
  have HR1 := Kp.mk (blk_keep hr0 hb1)
  have HB1 := Kp.mk (bel_then hb0 hb1)
  clear hW0 hr0 hb0 hrd hb1 hW1 hkb hs0 hgc
  refine HF.out.mono ?_
  rintro e w2 ⟨hu, hb⟩
  have HR2 := Kp.mk (blk_keep HR1.out hb)
  have HB2 := Kp.mk (bel_then HB1.out hb)
  clear hb HF HR1 HB1
  unfold CfEnd at hu
  cases hrd : cdRead (bl s) with
  | none =>
    rw [hrd] at hu
    obtain ⟨v, s1, T, u, _, rfl⟩ := hu
    have HN := Kp.mk hrd
    clear hrd
    have hb0 := fun ob => blk_cell (blk_keep HR2.out (bel_alloc (Below.refl _ _) ob)) 0
    have hf0 := fun ob => blk_frozen (blk_keep HR2.out (bel_alloc (Below.refl _ _) ob)) 0
    have hb1 := fun ob => blk_cell (blk_keep HR2.out (bel_alloc (Below.refl _ _) ob)) 1
    have hf1 := fun ob => blk_frozen (blk_keep HR2.out (bel_alloc (Below.refl _ _) ob)) 1
    have hb2 := fun ob => blk_cell (blk_keep HR2.out (bel_alloc (Below.refl _ _) ob)) 2
    have hf2 := fun ob => blk_frozen (blk_keep HR2.out (bel_alloc (Below.refl _ _) ob)) 2
    have hb3 := fun ob => blk_cell (blk_keep HR2.out (bel_alloc (Below.refl _ _) ob)) 3
    have hf3 := fun ob => blk_frozen (blk_keep HR2.out (bel_alloc (Below.refl _ _) ob)) 3
    go_wp2_with fail
    refine bodyPost_ret (res_cell3 rfl _ _ w.heap.size 25 #[.int .u64 0, .int .u64 0, .int .u64 0, .string ⟨#[]⟩] _ rfl (blk_set (blk_set (blk_set (blk_set (blk_keep HR2.out (bel_alloc (Below.refl _ _) _)) 0 _) 1 _) 2 _) 3 _) Tryd.underlying25 rfl (by kernel_rfl)) rfl ?_
    refine ⟨by unfold CrEnd; rw [HN.out]; rfl, ?_⟩
    exact bel_set (bel_set (bel_set (bel_set (bel_alloc HB2.out _) (Nat.le_refl _) _) (Nat.le_refl _) _) (Nat.le_refl _) _) (Nat.le_refl _) _
  | some q =>
    obtain ⟨v, codec, code, d, n⟩ := q
    rw [hrd] at hu
    simp only at hu
    subst hu
    have HN := Kp.mk hrd
    have HO := Kp.mk (fun w => cidOutRead_calls (bl s) v codec code n d w hrd (by rw [bl_length]; exact HX.out))
    clear hrd
    go_wp2_with fail
    have HE3 := Kp.mk (fun ob => ((HE.out.below HB2.out).mh).below (bel_alloc (Below.refl _ _) ob))
    refine (HO.out _ (HE3.out _)).mono ?_
    rintro e w3 ⟨rfl, hb⟩
    have HR3 := Kp.mk (blk_keep HR2.out (bel_new hb))
    have HB3 := Kp.mk (bel_then HB2.out (bel_new hb))
    clear hb HO HE3
    have hb0 := blk_cell HR3.out 0
    have hf0 := blk_frozen HR3.out 0
    have hb1 := blk_cell HR3.out 1
    have hf1 := blk_frozen HR3.out 1
    have hb2 := blk_cell HR3.out 2
    have hf2 := blk_frozen HR3.out 2
    have hb3 := blk_cell HR3.out 3
    have hf3 := blk_frozen HR3.out 3
    go_wp2_with fail
    refine bodyPost_ret (res_cell3 rfl _ _ w.heap.size 25 #[.int .u64 v, .int .u64 codec, .int .u64 code, .string (strB d)] _ rfl (blk_set (blk_set (blk_set (blk_set HR3.out 0 _) 1 _) 2 _) 3 _) Tryd.underlying25 rfl (by kernel_rfl)) rfl ?_
    refine ⟨by unfold CrEnd; rw [HN.out]; rfl, ?_⟩
    exact bel_set (bel_set (bel_set (bel_set HB3.out (Nat.le_refl _) _) (Nat.le_refl _) _) (Nat.le_refl _) _) (Nat.le_refl _) _

end Go.Proofs.YtldhnabhojfmiaaDoorR
