/- The walks of package cid's methods. -/
import Derived.Test.YtdppnlomhlnbkaaDoorCidUv
import Derived.Test.YtdppnlomhlnbkaaDoorCidMath
import Derived.Test.YtdppnlomhlnbkaaDoorUvLaws
namespace Go.Proofs.YtdppnlomhlnbkaaDoor
open Go.RowKit

theorem bl_at {s : ByteArray} {k : Nat} (h : k < s.size) {b : UInt8} (hb : (bl s)[k]? = some b) : s[k].toNat = b.toNat := by
  have : (bl s)[k]? = some s[k] := by rw [List.getElem?_eq_getElem (by rw [bl_length]; exact h)]; rfl
  rw [this] at hb; rw [Option.some.inj hb]

set_option maxHeartbeats 1600000 in
set_option maxRecDepth 100000 in
/-- (Cid).Version of one of version 0. -/
theorem cidVer0_calls (s : ByteArray) (w : World) (hs : s.size = 34) (h0 : (bl s)[0]? = some 18) (h1 : (bl s)[1]? = some 32) :
    Calls Tryd.prog 57 #[.agg #[.string s]] w fun e w' => e = .returned (.int .u64 0) ∧ Below w.heap.size w w' := by
  have k0 : s[0].toNat = 18 := bl_at (by omega) h0
  have k1 : s[1].toNat = 32 := bl_at (by omega) h1
  clear h0 h1
  go_enter Tryd.func57, Tryd.ntmps57
  go_wp2
  go_ret
  exact ⟨rfl, bel_alloc (Below.refl _ _) _⟩

set_option maxHeartbeats 1600000 in
set_option maxRecDepth 100000 in
/-- (Cid).Version of one of version 1. -/
theorem cidVer1_calls (s : ByteArray) (w : World) (hs : 0 < s.size) (h0 : (bl s)[0]? = some 1) :
    Calls Tryd.prog 57 #[.agg #[.string s]] w fun e w' => e = .returned (.int .u64 1) ∧ Below w.heap.size w w' := by
  have k0 : s[0].toNat = 1 := bl_at (by omega) h0
  clear h0
  by_cases h34 : s.size = 34
  · go_enter Tryd.func57, Tryd.ntmps57
    go_wp2
    go_ret
    exact ⟨rfl, bel_alloc (Below.refl _ _) _⟩
  · have q1 : ((s.size : Int) == 34) = false := beq_eq_false_iff_ne.2 (by omega)
    go_enter Tryd.func57, Tryd.ntmps57
    go_wp2
    go_ret
    exact ⟨rfl, bel_alloc (Below.refl _ _) _⟩

set_option maxHeartbeats 1600000 in
set_option maxRecDepth 100000 in
/-- (Cid).Defined. -/
theorem cidDef_calls (s : ByteArray) (w : World) (hs : 0 < s.size) :
    Calls Tryd.prog 71 #[.agg #[.string s]] w fun e w' => e = .returned (.bool true) ∧ Below w.heap.size w w' := by
  have hne : s.toList.isEmpty = false := by
    rw [← strB_bl s, strB_toList]
    cases hb : bl s with
    | nil => have := bl_length s; rw [hb] at this; simp at this; omega
    | cons => rfl
  go_enter Tryd.func71, Tryd.ntmps71
  go_wp2
  go_ret
  exact ⟨rfl, bel_alloc (Below.refl _ _) _⟩

set_option maxHeartbeats 1600000 in
set_option maxRecDepth 100000 in
/-- (Cid).KeyString. -/
theorem cidKey_calls (s : ByteArray) (w : World) :
    Calls Tryd.prog 31 #[.agg #[.string s]] w fun e w' => e = .returned (.string s) ∧ Below w.heap.size w w' := by
  go_enter Tryd.func31, Tryd.ntmps31
  go_wp2
  go_ret
  exact ⟨rfl, bel_alloc (Below.refl _ _) _⟩

set_option maxHeartbeats 1600000 in
set_option maxRecDepth 100000 in
/-- (Cid).Prefix of one of version 0. -/
theorem cidPre0_calls (s : ByteArray) (w : World) (hs : s.size = 34) (h0 : (bl s)[0]? = some 18) (h1 : (bl s)[1]? = some 32) :
    Calls Tryd.prog 44 #[.agg #[.string s]] w fun e w' => e = .returned (.agg #[.int .u64 0, .int .u64 112, .int .u64 18, .int .i64 32]) ∧ Below w.heap.size w w' := by
  have HV := Kp.mk (fun w => cidVer0_calls s w hs h0 h1)
  clear hs h0 h1
  go_enter Tryd.func44, Tryd.ntmps44
  go_wp2_with fail
  refine (HV.out _).mono ?_
  rintro e w1 ⟨rfl, hb⟩
  have HB := Kp.mk (bel_new2 hb)
  have HG := Kp.mk (blk_new2 hb)
  clear hb
  have hc0 := blk_cell HG.out 0
  have hc1 := blk_cell HG.out 1
  have hc2 := blk_cell HG.out 2
  have hc3 := blk_cell HG.out 3
  have hf0 := blk_frozen HG.out 0
  have hf1 := blk_frozen HG.out 1
  have hf2 := blk_frozen HG.out 2
  have hf3 := blk_frozen HG.out 3
  go_wp2_with fail
  refine bodyPost_ret (res_cell1 rfl _ _ (w.heap.size + 1) 98 #[.int .u64 0, .int .u64 112, .int .u64 18, .int .i64 32] _ rfl (blk_set (blk_set (blk_set (blk_set HG.out 0 _) 1 _) 2 _) 3 _) Tryd.underlying98 rfl (by kernel_rfl)) rfl ?_
  exact ⟨rfl, bel_set (bel_set (bel_set (bel_set HB.out (Nat.le_succ _) _) (Nat.le_succ _) _) (Nat.le_succ _) _) (Nat.le_succ _) _⟩

/-- A text that reads as an identifier of version 1. -/
structure CidS (s : ByteArray) (codec code : Nat) (d : List UInt8) (m k : Nat) : Prop where
  bytes : bl s = cdBytes codec code d
  size : s.size ≤ 2147483647
  m : (Lib.uvarint codec).length = m
  k : (Lib.uvarint code).length = k
  codec : codec < 2 ^ 63
  code : code < 2 ^ 63
theorem CidS.len {s : ByteArray} {codec code : Nat} {d : List UInt8} {m k : Nat} (h : CidS s codec code d m k) : s.size = 1 + m + k + (Lib.uvarint d.length).length + d.length := by
  rw [← bl_length, h.bytes]; simp only [cdBytes, mhBytes, List.length_cons, List.length_append, h.m, h.k]; omega
theorem CidS.zero {s : ByteArray} {codec code : Nat} {d : List UInt8} {m k : Nat} (h : CidS s codec code d m k) : (bl s)[0]? = some 1 := by rw [h.bytes]; rfl
theorem CidS.dlt {s : ByteArray} {codec code : Nat} {d : List UInt8} {m k : Nat} (h : CidS s codec code d m k) : d.length ≤ 2147483647 := by have := h.len; have := h.size; omega
theorem cut_bl (s : ByteArray) (a : Nat) : bl (s.extract a s.size) = (bl s).drop a := by
  rw [bl_extract, List.take_of_length_le (by rw [bl_length]; omega)]
theorem CidS.r0 {s : ByteArray} {codec code : Nat} {d : List UInt8} {m k : Nat} (h : CidS s codec code d m k) : uvRead (bl s) = some (1, 1) := by
  have := uvRead_uvarint (x := 1) (Lib.uvarint codec ++ mhBytes code d) (by rw [uvarint_one]; decide)
  rw [uvarint_one] at this
  rw [h.bytes]; exact this
theorem CidS.d1 {s : ByteArray} {codec code : Nat} {d : List UInt8} {m k : Nat} (h : CidS s codec code d m k) : (bl s).drop 1 = Lib.uvarint codec ++ mhBytes code d := by rw [h.bytes]; rfl
theorem CidS.r1 {s : ByteArray} {codec code : Nat} {d : List UInt8} {m k : Nat} (h : CidS s codec code d m k) : uvRead ((bl s).drop 1) = some (codec, m) := by
  rw [h.d1, uvRead_uvarint _ (uvarint_lt63 h.codec), h.m]
theorem CidS.d2 {s : ByteArray} {codec code : Nat} {d : List UInt8} {m k : Nat} (h : CidS s codec code d m k) : (bl s).drop (1 + m) = mhBytes code d := by
  rw [← List.drop_drop, h.d1, List.drop_left' h.m]
theorem CidS.r2 {s : ByteArray} {codec code : Nat} {d : List UInt8} {m k : Nat} (h : CidS s codec code d m k) : uvRead ((bl s).drop (1 + m)) = some (code, k) := by
  rw [h.d2, mhBytes, List.append_assoc, uvRead_uvarint _ (uvarint_lt63 h.code), h.k]
theorem CidS.r3 {s : ByteArray} {codec code : Nat} {d : List UInt8} {m k : Nat} (h : CidS s codec code d m k) : uvRead ((bl s).drop (1 + m + k)) = some (d.length, (Lib.uvarint d.length).length) := by
  rw [← List.drop_drop, h.d2, mhBytes, List.append_assoc, List.drop_left' h.k, uvRead_uvarint _ (uvarint_lt63 (by have := h.dlt; omega))]
theorem CidS.mh {s : ByteArray} {codec code : Nat} {d : List UInt8} {m k : Nat} (h : CidS s codec code d m k) : mhRead ((bl s).drop (1 + m)) = some (code, d, (mhBytes code d).length) := by
  have := mhRead_mhBytes (code := code) (d := d) [] h.code (by have := h.dlt; omega)
  rw [List.append_nil] at this
  rw [h.d2, this]

set_option maxHeartbeats 1600000 in
set_option maxRecDepth 100000 in
/-- (Cid).Prefix of one of version 1. -/
theorem cidPre1_calls (s : ByteArray) (codec code : Nat) (d : List UInt8) (m k : Nat) (w : World) (h : CidS s codec code d m k) :
    Calls Tryd.prog 44 #[.agg #[.string s]] w fun e w' => e = .returned (.agg #[.int .u64 1, .int .u64 codec, .int .u64 code, .int .i64 d.length]) ∧ Below w.heap.size w w' := by
  have hlen := h.len
  have hsz := h.size
  have hdl := h.dlt
  have HV := Kp.mk (fun w => cidVer1_calls s w (by omega) h.zero)
  have HU0 := Kp.mk (fun w => cidUv_calls s 1 1 w (by omega) h.r0)
  have HU1 := Kp.mk (fun w => cidUv_calls (s.extract 1 s.size) codec m w (by rw [ByteArray.size_extract]; omega) (by rw [cut_bl]; exact h.r1))
  have HU2 := Kp.mk (fun w => cidUv_calls (s.extract (1 + m) s.size) code k w (by rw [ByteArray.size_extract]; omega) (by rw [cut_bl]; exact h.r2))
  have HU3 := Kp.mk (fun w => cidUv_calls (s.extract (1 + m + k) s.size) d.length (Lib.uvarint d.length).length w (by rw [ByteArray.size_extract]; omega) (by rw [cut_bl]; exact h.r3))
  have hm : 1 + m ≤ s.size := by omega
  have hk : 1 + m + k ≤ s.size := by omega
  have h1s : 1 ≤ s.size := by omega
  clear h hlen
  generalize (Lib.uvarint d.length).length = j at *
  go_enter Tryd.func44, Tryd.ntmps44
  go_wp2_with fail
  refine (HV.out _).mono ?_
  rintro e w1 ⟨rfl, hb⟩
  have HB := Kp.mk (bel_new2 hb)
  have HG := Kp.mk (blk_new2 hb)
  have HG0 := Kp.mk (blk_new (o := .cells #[.string s] 57) (bel_then (bel_alloc (Below.refl _ _) _) hb))
  clear hb
  have hs0 := blk_cell HG0.out 0
  have hc0 := blk_cell HG.out 0
  have hc1 := blk_cell HG.out 1
  have hc2 := blk_cell HG.out 2
  have hc3 := blk_cell HG.out 3
  have hf0 := blk_frozen HG.out 0
  have hf1 := blk_frozen HG.out 1
  have hf2 := blk_frozen HG.out 2
  have hf3 := blk_frozen HG.out 3
  go_wp2_with fail
  refine (HU0.out _).mono ?_
  rintro e w2 ⟨rfl, rfl⟩
  go_wp2_with fail
  refine (HU1.out _).mono ?_
  rintro e w2 ⟨rfl, rfl⟩
  go_wp2_with fail
  refine (HU2.out _).mono ?_
  rintro e w2 ⟨rfl, rfl⟩
  go_wp2_with fail
  refine (HU3.out _).mono ?_
  rintro e w2 ⟨rfl, rfl⟩
  go_wp2_with fail
  refine bodyPost_ret (res_cell1 rfl _ _ (w.heap.size + 1) 98 #[.int .u64 1, .int .u64 codec, .int .u64 code, .int .i64 d.length] _ rfl (blk_set (blk_set (blk_set (blk_set HG.out 0 _) 1 _) 2 _) 3 _) Tryd.underlying98 rfl (by kernel_rfl)) rfl ?_
  exact ⟨rfl, bel_set (bel_set (bel_set (bel_set HB.out (Nat.le_succ _) _) (Nat.le_succ _) _) (Nat.le_succ _) _) (Nat.le_succ _) _⟩

set_option maxHeartbeats 1600000 in
set_option maxRecDepth 100000 in
/-- (Cid).Bytes. -/
theorem cidByt_calls (s : ByteArray) (w : World) (h0 : 0 < s.size) (hs : s.size ≤ 2147483647) :
    Calls Tryd.prog 60 #[.agg #[.string s]] w fun e w' => (∃ g c, e = .returned (.slice (some ⟨g, 0, none⟩) s.size c) ∧ RdB w' (some ⟨g, 0, none⟩) s.size c (bl s)) ∧ Below w.heap.size w w' := by
  have hkb := fun W => Lib.run_convert_string_bytes (P := Tryd.prog) W 9 62 5 s Tryd.underlying9 Tryd.underlying62 Tryd.underlying5
  have HD := Kp.mk (fun w => cidDef_calls s w h0)
  have HR := Kp.mk (fun W => rd_bytes W 5 s (by omega))
  clear h0 hs
  go_enter Tryd.func60, Tryd.ntmps60
  go_wp2_with fail
  refine (HD.out _).mono ?_
  rintro e w1 ⟨rfl, hb⟩
  have HB := Kp.mk (bel_new hb)
  have HG := Kp.mk (blk_new hb)
  clear hb
  have hs0 := blk_cell HG.out 0
  go_wp2_with fail
  go_ret
  exact ⟨⟨_, _, rfl, HR.out _⟩, bel_bytes HB.out _ _⟩

set_option maxHeartbeats 1600000 in
set_option maxRecDepth 100000 in
/-- (Cid).Hash of one of version 0. -/
theorem cidHash0_calls (s : ByteArray) (w : World) (hs : s.size = 34) (h0 : (bl s)[0]? = some 18) (h1 : (bl s)[1]? = some 32) :
    Calls Tryd.prog 46 #[.agg #[.string s]] w fun e w' => (∃ A c, e = .returned (.slice A s.size c) ∧ RdB w' A s.size c (bl s)) ∧ Below w.heap.size w w' := by
  have HV := Kp.mk (fun w => cidVer0_calls s w hs h0 h1)
  have HB := Kp.mk (fun w => cidByt_calls s w (by omega) (by omega))
  clear hs h0 h1
  go_enter Tryd.func46, Tryd.ntmps46
  go_wp2_with fail
  refine (HB.out _).mono ?_
  rintro e w1 ⟨⟨g, c, rfl, hr⟩, hb⟩
  have HB1 := Kp.mk (bel_new hb)
  have HG := Kp.mk (blk_new hb)
  have HR := Kp.mk hr
  clear hb hr
  have hs0 := blk_cell HG.out 0
  go_wp2_with fail
  refine (HV.out _).mono ?_
  rintro e w2 ⟨rfl, hb⟩
  have HB2 := Kp.mk (bel_then HB1.out hb)
  have HR2 := Kp.mk (HR.out.below hb)
  clear hb
  go_wp2_with fail
  go_ret
  exact ⟨⟨_, _, rfl, HR2.out⟩, HB2.out⟩

end Go.Proofs.YtdppnlomhlnbkaaDoor
