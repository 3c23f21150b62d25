/- Some texts in one: Mh, MhRd, MhDec, MhOne. -/
import Derived.Test.YtkcpgcaccgahaaaGreatDoorUvA
import Derived.Test.YtkcpgcaccgahaaaGreatDoorMathA
import Derived.Test.YtkcpgcaccgahaaaGreatDoorMhEnc
namespace Go.Proofs.YtkcpgcaccgahaaaGreatDoor
open Go.RowKit

/-- The variables of packages varint and multihash hold errors. -/
structure MhErrs (w : World) : Prop where
  uv : UvErrs w
  short : ∃ T v, w.cell? ⟨11, 0, none⟩ = some (.iface T v)
theorem MhErrs.below {w w1 : World} (h : MhErrs w) (hb : Below w.heap.size w w1) : MhErrs w1 := by
  obtain ⟨h1, ⟨a, b, h2⟩⟩ := h
  exact ⟨h1.below hb, ⟨a, b, cell_bel hb h2⟩⟩

/-- A slice that reads as these bytes wherever another one reads as those. -/
def Part (A : Option Addr) (n c : Nat) (bs : List UInt8) (A' : Option Addr) (n' c' : Nat) (bs' : List UInt8) : Prop := ∀ w : World, RdB w A n c bs → RdB w A' n' c' bs'

/-- What multihash.uvarint hands back: a number and the rest of the bytes, or an error. -/
def MuEnd (A : Option Addr) (n c : Nat) (bs : List UInt8) (e : Ending) : Prop :=
  match uvRead bs with
  | some (x, k) => ∃ A', e = .returned (.tuple #[.int .u64 x, .slice A' (n - k) (c - k), .nilIface]) ∧ Part A n c bs A' (n - k) (c - k) (bs.drop k)
  | none => ∃ x v T u, e = .returned (.tuple #[.int .u64 x, v, .iface T u])
theorem muEnd_none {A : Option Addr} {n c : Nat} {bs : List UInt8} (h : uvRead bs = none) {x : Int} {v u : Value} {T : TypeId} : MuEnd A n c bs (.returned (.tuple #[.int .u64 x, v, .iface T u])) := by
  unfold MuEnd; rw [h]; exact ⟨x, v, T, u, rfl⟩
theorem muEnd_some {A : Option Addr} {n c : Nat} {bs : List UInt8} {x k : Nat} {A' : Option Addr} (h : uvRead bs = some (x, k)) (hr : Part A n c bs A' (n - k) (c - k) (bs.drop k)) : MuEnd A n c bs (.returned (.tuple #[.int .u64 x, .slice A' (n - k) (c - k), .nilIface])) := by
  unfold MuEnd; rw [h]; exact ⟨A', rfl, hr⟩

set_option maxHeartbeats 800000 in
set_option maxRecDepth 100000 in
theorem mhUvarint_calls (A : Option Addr) (n c : Nat) (bs : List UInt8) (w : World) (hr : RdB w A n c bs) (he : UvErrs w) :
    Calls Tryz.prog 156 #[.slice A n c] w fun e w' => MuEnd A n c bs e ∧ Below w.heap.size w w' := by
  have HF := Kp.mk (fromUv_calls A n c bs w hr he)
  have HR := Kp.mk hr
  have hl := hr.len
  have hc := hr.cap
  have hm := hr.most
  clear hr he
  go_enter Tryz.func156, Tryz.ntmps156
  go_wp2_with fail
  refine HF.out.mono ?_
  rintro e w1 ⟨hu, hb⟩
  have HR1 := Kp.mk (HR.out.below hb)
  have HB := Kp.mk hb
  clear hb HF HR
  cases hrd : uvRead bs with
  | none =>
    rw [hrd] at hu
    obtain ⟨T, v, rfl⟩ := hu
    have HD := Kp.mk hrd
    clear hrd
    go_wp2_with fail
    go_ret3
    exact ⟨muEnd_none HD.out, HB.out⟩
  | some p =>
    obtain ⟨x, k⟩ := p
    rw [hrd] at hu
    obtain rfl : e = _ := hu
    have hk := uvRead_some hrd
    have hk1 := hk.1
    have hk2 : k ≤ n := by omega
    have HD := Kp.mk hrd
    obtain ⟨A', hcut, hA'⟩ := rd_cut 67 .i64 Tryz.underlying67 A n c k hk2
    have HA := Kp.mk (fun w => hA' w bs)
    have q0 : ((k : Int) == 0) = false := beq_eq_false_iff_ne.2 (by omega)
    clear hrd hk hA' HR1
    go_wp2_with fail
    go_quiet (fail)
    go_wp2
    go_ret3
    exact ⟨muEnd_some HD.out HA.out, bel_drewN HB.out _⟩

end Go.Proofs.YtkcpgcaccgahaaaGreatDoor
namespace Go.Proofs.YtkcpgcaccgahaaaGreatDoor
open Go.RowKit

set_option maxHeartbeats 800000 in
/-- errors.New: an error. -/
theorem errNew_calls (s : ByteArray) (w : World) :
    Calls Tryz.prog 74 #[.string s] w fun e w' => (∃ T v, e = .returned (.iface T v)) ∧ Below w.heap.size w w' := by
  go_enter Tryz.func74, Tryz.ntmps74
  go_wp2
  go_ret
  exact ⟨⟨_, _, rfl⟩, bel_alloc (Below.refl _ _) _⟩

/-- What readMultihashFromBuf hands back. -/
def MhEnd (A : Option Addr) (n0 c : Nat) (bs : List UInt8) (e : Ending) : Prop :=
  match mhRead bs with
  | some (code, d, n) => ∃ A' c', e = .returned (.tuple #[.int .i64 n, .int .u64 code, .slice A' d.length c', .nilIface]) ∧ Part A n0 c bs A' d.length c' d
  | none => ∃ T u, e = .returned (.tuple #[.int .i64 0, .int .u64 0, .slice none 0 0, .iface T u])
theorem mhEnd_none {A : Option Addr} {n0 c : Nat} {bs : List UInt8} (h : mhRead bs = none) {u : Value} {T : TypeId} : MhEnd A n0 c bs (.returned (.tuple #[.int .i64 0, .int .u64 0, .slice none 0 0, .iface T u])) := by
  unfold MhEnd; rw [h]; exact ⟨T, u, rfl⟩
theorem mhEnd_some {A : Option Addr} {n0 c : Nat} {bs : List UInt8} {code N k : Nat} {d : List UInt8} {n : Int} {A' : Option Addr} {c' : Nat} (h : mhRead bs = some (code, d, N)) (hn : n = (N : Int)) (hk : k = d.length) (hr : Part A n0 c bs A' k c' d) :
    MhEnd A n0 c bs (.returned (.tuple #[.int .i64 n, .int .u64 code, .slice A' k c', .nilIface])) := by
  subst hn hk
  unfold MhEnd; rw [h]; exact ⟨A', c', rfl, hr⟩

set_option maxHeartbeats 2000000 in
set_option maxRecDepth 100000 in
theorem mhBuf_calls (A : Option Addr) (n c : Nat) (bs : List UInt8) (w : World) (hr : RdB w A n c bs) (he : MhErrs w) (hn31 : n ≤ 2147483647) :
    Calls Tryz.prog 131 #[.slice A n c] w fun e w' => MhEnd A n c bs e ∧ Below w.heap.size w w' := by
  have HR := Kp.mk hr
  have HE := Kp.mk he
  have hl := hr.len
  have hc := hr.cap
  have hm := hr.most
  obtain ⟨T0, v0, g0⟩ := he.short
  clear hr he
  by_cases h2 : n < 2
  · have HM := Kp.mk (mhRead_short (bs := bs) (by omega))
    go_enter Tryz.func131, Tryz.ntmps131
    go_wp2_with fail
    go_quiet (fail)
    go_wp2
    (try simp only [Exit.inBlock, Exit.then]); refine bodyPost_ret (results_tmp4 rfl _ _ _) rfl ?_
    exact ⟨mhEnd_none HM.out, below_self_drewN _ _⟩
  · clear g0
    go_enter Tryz.func131, Tryz.ntmps131
    go_wp2_with fail
    refine (mhUvarint_calls A n c bs _ HR.out HE.out.uv).mono ?_
    rintro e w1 ⟨hu, hb⟩
    have HE1 := Kp.mk (HE.out.below hb)
    have HR1 := Kp.mk (HR.out.below hb)
    have HB := Kp.mk hb
    clear hb HE HR
    unfold MuEnd at hu
    cases hrd : uvRead bs with
    | none =>
      rw [hrd] at hu
      obtain ⟨x, v, T, u, rfl⟩ := hu
      have HM := Kp.mk (mhRead_none1 hrd)
      clear hrd
      go_wp2_with fail
      (try simp only [Exit.inBlock, Exit.then]); refine bodyPost_ret (results_tmp4 rfl _ _ _) rfl ?_
      exact ⟨mhEnd_none HM.out, HB.out⟩
    | some p =>
      obtain ⟨code, k⟩ := p
      rw [hrd] at hu
      obtain ⟨A', rfl, hp1⟩ := hu
      have hr := hp1 _ HR1.out
      have HP1 := Kp.mk hp1
      have hk := uvRead_some hrd
      have hk2 : k ≤ n := by omega
      have HD := Kp.mk hrd
      have HR := Kp.mk hr
      clear hrd hk hr hp1 HR1
      go_wp2_with fail
      refine (mhUvarint_calls A' (n - k) (c - k) (bs.drop k) _ HR.out HE1.out.uv).mono ?_
      rintro e w2 ⟨hu, hb⟩
      have HB2 := Kp.mk (bel_then HB.out hb)
      clear hb HE1 HR HB
      unfold MuEnd at hu
      cases hrd2 : uvRead (bs.drop k) with
      | none =>
        rw [hrd2] at hu
        obtain ⟨x, v, T, u, rfl⟩ := hu
        have HM := Kp.mk (mhRead_none2 HD.out hrd2)
        clear hrd2
        go_wp2_with fail
        (try simp only [Exit.inBlock, Exit.then]); refine bodyPost_ret (results_tmp4 rfl _ _ _) rfl ?_
        exact ⟨mhEnd_none HM.out, HB2.out⟩
      | some p =>
        obtain ⟨size, m⟩ := p
        rw [hrd2] at hu
        obtain ⟨A2, rfl, hp2⟩ := hu
        have HP2 := Kp.mk hp2
        have hm2 := uvRead_some hrd2
        rw [List.length_drop] at hm2
        have hm3 : m ≤ n - k := by omega
        have hsz := hm2.2.2.2
        have HD2 := Kp.mk hrd2
        clear hrd2 hm2 hp2
        by_cases hbig : n - k - m < size
        · have HM := Kp.mk (mhRead_none3 HD.out HD2.out (by omega))
          by_cases h31 : 2147483647 < size
          · clear hsz
            go_wp2_with fail
            refine (errNew_calls _ _).mono ?_
            rintro e w3 ⟨⟨T, v, rfl⟩, hb⟩
            have HB3 := Kp.mk (bel_then HB2.out hb)
            clear hb
            go_wp2_with fail
            (try simp only [Exit.inBlock, Exit.then]); refine bodyPost_ret (results_tmp4 rfl _ _ _) rfl ?_
            exact ⟨mhEnd_none HM.out, HB3.out⟩
          · clear hsz
            go_wp2_with fail
            refine (errNew_calls _ _).mono ?_
            rintro e w3 ⟨⟨T, v, rfl⟩, hb⟩
            have HB3 := Kp.mk (bel_then HB2.out hb)
            clear hb
            go_wp2_with fail
            (try simp only [Exit.inBlock, Exit.then]); refine bodyPost_ret (results_tmp4 rfl _ _ _) rfl ?_
            exact ⟨mhEnd_none HM.out, HB3.out⟩
        · have HM := Kp.mk (mhRead_some' HD.out HD2.out (by omega))
          obtain ⟨A3, hcut, hA3⟩ := rd_to 67 .u64 Tryz.underlying67 A2 (n - k - m) (c - k - m) size (by omega) (by omega)
          have HA : Kp (Part A n c bs A3 size (c - k - m) (((bs.drop k).drop m).take size)) := ⟨fun W h => hA3 W _ (HP2.out W (HP1.out W h))⟩
          clear hsz hA3
          go_wp2_with fail
          go_quiet (fail)
          go_wp2
          (try simp only [Exit.inBlock, Exit.then]); refine bodyPost_ret (results_tmp4 rfl _ _ _) rfl ?_
          refine ⟨mhEnd_some HM.out (by omega) (by rw [List.length_take, List.length_drop]; omega) ?_, bel_drewN HB2.out _⟩
          rw [← List.drop_drop]
          exact HA.out

/-- What MHFromBytes hands back. -/
def MfEnd (A : Option Addr) (n0 c : Nat) (bs : List UInt8) (e : Ending) : Prop :=
  match mhRead bs with
  | some (_, _, n) => ∃ A' c', e = .returned (.tuple #[.int .i64 n, .slice A' n c', .nilIface]) ∧ Part A n0 c bs A' n c' (bs.take n)
  | none => ∃ T u, e = .returned (.tuple #[.int .i64 0, .slice none 0 0, .iface T u])
theorem mfEnd_none {A : Option Addr} {n0 c : Nat} {bs : List UInt8} (h : mhRead bs = none) {u : Value} {T : TypeId} : MfEnd A n0 c bs (.returned (.tuple #[.int .i64 0, .slice none 0 0, .iface T u])) := by
  unfold MfEnd; rw [h]; exact ⟨T, u, rfl⟩
theorem mfEnd_some {A : Option Addr} {n0 c : Nat} {bs : List UInt8} {code N : Nat} {d : List UInt8} {A' : Option Addr} {c' : Nat} (h : mhRead bs = some (code, d, N)) (hr : Part A n0 c bs A' N c' (bs.take N)) :
    MfEnd A n0 c bs (.returned (.tuple #[.int .i64 N, .slice A' N c', .nilIface])) := by
  unfold MfEnd; rw [h]; exact ⟨A', c', rfl, hr⟩

set_option maxHeartbeats 800000 in
theorem mhFrom_calls (A : Option Addr) (n c : Nat) (bs : List UInt8) (w : World) (hr : RdB w A n c bs) (he : MhErrs w) (hn31 : n ≤ 2147483647) :
    Calls Tryz.prog 174 #[.slice A n c] w fun e w' => MfEnd A n c bs e ∧ Below w.heap.size w w' := by
  have HF := Kp.mk (mhBuf_calls A n c bs w hr he hn31)
  have HR := Kp.mk hr
  have hl := hr.len
  have hc := hr.cap
  have hm := hr.most
  clear hr he
  go_enter Tryz.func174, Tryz.ntmps174
  go_wp2_with fail
  refine HF.out.mono ?_
  rintro e w1 ⟨hu, hb⟩
  have HR1 := Kp.mk (HR.out.below hb)
  have HB := Kp.mk hb
  clear hb HF HR
  unfold MhEnd at hu
  cases hrd : mhRead bs with
  | none =>
    rw [hrd] at hu
    obtain ⟨T, u, rfl⟩ := hu
    have HM := Kp.mk hrd
    clear hrd
    go_wp2_with fail
    go_ret3
    exact ⟨mfEnd_none HM.out, HB.out⟩
  | some p =>
    obtain ⟨code, d, N⟩ := p
    rw [hrd] at hu
    obtain ⟨A', c', rfl, _⟩ := hu
    have hN := mhRead_lt hrd
    have hN2 : N ≤ n := by omega
    have HM := Kp.mk hrd
    obtain ⟨A3, hcut, hA3⟩ := rd_to 67 .i64 Tryz.underlying67 A n c N hN2 hc
    have HA : Kp (Part A n c bs A3 N c (bs.take N)) := ⟨fun W h => hA3 W _ h⟩
    clear hA3 hrd HR1 hN
    go_wp2_with fail
    go_quiet (fail)
    go_wp2
    go_ret3
    exact ⟨mfEnd_some HM.out HA.out, bel_drewN HB.out _⟩

/-- What impl.MhRead hands back. -/
def MrEnd (bs : List UInt8) (e : Ending) : Prop :=
  match mhRead bs with
  | some (_, _, n) => e = .returned (.tuple #[.int .i64 n, .bool true])
  | none => ∃ n, e = .returned (.tuple #[.int .i64 n, .bool false])
theorem mrEnd_none {bs : List UInt8} (h : mhRead bs = none) {n : Int} : MrEnd bs (.returned (.tuple #[.int .i64 n, .bool false])) := by
  unfold MrEnd; rw [h]; exact ⟨n, rfl⟩
theorem mrEnd_some {bs : List UInt8} {code N : Nat} {d : List UInt8} (h : mhRead bs = some (code, d, N)) : MrEnd bs (.returned (.tuple #[.int .i64 N, .bool true])) := by
  unfold MrEnd; rw [h]






































end Go.Proofs.YtkcpgcaccgahaaaGreatDoor
namespace Go.Proofs.YtkcpgcaccgahaaaGreatDoor
open Go.RowKit



















/-- What multihash.decode hands back. -/
def DcEnd (A : Option Addr) (n0 c : Nat) (bs : List UInt8) (e : Ending) : Prop :=
  match mhRead bs with
  | some (code, d, n) => if n = bs.length then ∃ A' c', e = .returned (.tuple #[.agg #[.int .u64 code, .string ⟨#[]⟩, .int .i64 d.length, .slice A' d.length c'], .nilIface]) ∧ Part A n0 c bs A' d.length c' d
      else ∃ a b c A1 n1 c1 T u, e = .returned (.tuple #[.agg #[.int .u64 a, .string b, .int .i64 c, .slice A1 n1 c1], .iface T u])
  | none => ∃ a b c A1 n1 c1 T u, e = .returned (.tuple #[.agg #[.int .u64 a, .string b, .int .i64 c, .slice A1 n1 c1], .iface T u])
theorem dcEnd_none {A : Option Addr} {n0 c0 : Nat} {bs : List UInt8} (h : mhRead bs = none) {a c : Int} {b : ByteArray} {A1 : Option Addr} {n1 c1 : Nat} {u : Value} {T : TypeId} : DcEnd A n0 c0 bs (.returned (.tuple #[.agg #[.int .u64 a, .string b, .int .i64 c, .slice A1 n1 c1], .iface T u])) := by
  unfold DcEnd; rw [h]; exact ⟨a, b, c, A1, n1, c1, T, u, rfl⟩
theorem dcEnd_less {A : Option Addr} {n0 c0 : Nat} {bs : List UInt8} {code N : Nat} {dg : List UInt8} (h : mhRead bs = some (code, dg, N)) (hN : N ≠ bs.length) {a c : Int} {b : ByteArray} {A1 : Option Addr} {n1 c1 : Nat} {u : Value} {T : TypeId} : DcEnd A n0 c0 bs (.returned (.tuple #[.agg #[.int .u64 a, .string b, .int .i64 c, .slice A1 n1 c1], .iface T u])) := by
  unfold DcEnd; rw [h]; simp only; rw [if_neg hN]; exact ⟨a, b, c, A1, n1, c1, T, u, rfl⟩
theorem dcEnd_some {A : Option Addr} {n0 c0 : Nat} {bs : List UInt8} {code N : Nat} {d : List UInt8} {A' : Option Addr} {c' : Nat} (h : mhRead bs = some (code, d, N)) (hN : N = bs.length) (hr : Part A n0 c0 bs A' d.length c' d) :
    DcEnd A n0 c0 bs (.returned (.tuple #[.agg #[.int .u64 code, .string ⟨#[]⟩, .int .i64 d.length, .slice A' d.length c'], .nilIface])) := by
  unfold DcEnd; rw [h]; simp only; rw [if_pos hN]; exact ⟨A', c', rfl, hr⟩

set_option maxHeartbeats 1600000 in
set_option maxRecDepth 100000 in
theorem decode_calls (A : Option Addr) (n c : Nat) (bs : List UInt8) (w : World) (hr : RdB w A n c bs) (he : MhErrs w) (hn31 : n ≤ 2147483647) :
    Calls Tryz.prog 106 #[.slice A n c] w fun e w' => DcEnd A n c bs e ∧ Below w.heap.size w w' := by
  have HF := Kp.mk (fun W (hb : Below w.heap.size w W) => mhBuf_calls A n c bs W (hr.below hb) (he.below hb) hn31)
  have hl := hr.len
  clear hr he
  go_enter Tryz.func106, Tryz.ntmps106
  go_wp2_with fail
  refine (HF.out _ (bel_alloc (Below.refl _ _) _)).mono ?_
  rintro e w1 ⟨hu, hb⟩
  have hg := blk_new hb
  have HB := Kp.mk (bel_new hb)
  have c0 := blk_cell hg 0
  have c1 := blk_cell hg 1
  have c2 := blk_cell hg 2
  have c3 := blk_cell hg 3
  have f0 := blk_frozen hg 0
  have f1 := blk_frozen hg 1
  have f2 := blk_frozen hg 2
  have f3 := blk_frozen hg 3
  have HG := Kp.mk hg
  clear hb HF hg
  unfold MhEnd at hu
  cases hrd : mhRead bs with
  | none =>
    rw [hrd] at hu
    obtain ⟨T, u, rfl⟩ := hu
    have HM := Kp.mk hrd
    clear hrd
    go_wp2_with fail
    refine bodyPost_ret (v := .tuple #[.agg #[.int .u64 0, .string ⟨#[]⟩, .int .i64 0, .slice none 0 0], .iface T u]) (by simp [results, Tryz.results106, go_sem, c0, c1, c2, c3]) rfl ?_
    exact ⟨dcEnd_none HM.out, bel_set (bel_set (bel_set (bel_set HB.out (Nat.le_refl _) _) (Nat.le_refl _) _) (Nat.le_refl _) _) (Nat.le_refl _) _⟩
  | some p =>
    obtain ⟨code, d, N⟩ := p
    rw [hrd] at hu
    obtain ⟨A', c', rfl, hr⟩ := hu
    have HM := Kp.mk hrd
    have HR := Kp.mk hr
    clear hrd hr
    go_upto_region 5 with (fail)
    generalize hw2 : (((w1.setCell _ _).setCell _ _).setCell _ _).setCell _ _ = w2
    have hg2 : w2.heap[w.heap.size]? = some (.cells #[.int .u64 code, .string ⟨#[]⟩, .int .i64 d.length, .slice A' d.length c'] 171 (0, 0)) := by
      rw [← hw2]; exact blk_set (blk_set (blk_set (blk_set HG.out 0 _) 1 _) 2 _) 3 _
    have hb2 : Below w.heap.size w w2 := by
      rw [← hw2]; exact bel_set (bel_set (bel_set (bel_set HB.out (Nat.le_refl _) _) (Nat.le_refl _) _) (Nat.le_refl _) _) (Nat.le_refl _) _
    have HB2 := Kp.mk hb2
    have HG2 := Kp.mk hg2
    clear c0 c1 c2 c3 f0 f1 f2 f3 hw2 HG HB hb2
    have c0 := blk_cell hg2 0
    have c1 := blk_cell hg2 1
    have c2 := blk_cell hg2 2
    have c3 := blk_cell hg2 3
    have f0 := blk_frozen hg2 0
    have f1 := blk_frozen hg2 1
    have f2 := blk_frozen hg2 2
    have f3 := blk_frozen hg2 3
    clear hg2
    by_cases hN : N = n
    · have q1 : ((n : Int) == (N : Int)) = true := beq_iff_eq.2 (by omega)
      have HN := Kp.mk hN
      clear hN
      go_wp2_with fail
      refine bodyPost_ret (res_cell2 rfl _ _ w.heap.size 171 #[.int .u64 code, .string ⟨#[]⟩, .int .i64 d.length, .slice A' d.length c'] _ rfl (blk_set (blk_set (blk_set (blk_set HG2.out 0 _) 1 _) 2 _) 3 _) Tryz.underlying171 rfl (by kernel_rfl)) rfl ?_
      exact ⟨dcEnd_some HM.out (by rw [HN.out, hl]) HR.out, bel_set (bel_set (bel_set (bel_set HB2.out (Nat.le_refl _) _) (Nat.le_refl _) _) (Nat.le_refl _) _) (Nat.le_refl _) _⟩
    · have q1 : ((n : Int) == (N : Int)) = false := beq_eq_false_iff_ne.2 (by omega)
      go_wp2_with fail
      refine bodyPost_ret (res_cell2 rfl _ _ w.heap.size 171 #[.int .u64 code, .string ⟨#[]⟩, .int .i64 d.length, .slice A' d.length c'] _ rfl (blk_set (blk_set (blk_set (blk_set HG2.out 0 _) 1 _) 2 _) 3 _) Tryz.underlying171 rfl (by kernel_rfl)) rfl ?_
      exact ⟨dcEnd_less HM.out (by rw [hl]; exact hN), bel_set (bel_set (bel_set (bel_set HB2.out (Nat.le_refl _) _) (Nat.le_refl _) _) (Nat.le_refl _) _) (Nat.le_refl _) _⟩

end Go.Proofs.YtkcpgcaccgahaaaGreatDoor
namespace Go.Proofs.YtkcpgcaccgahaaaGreatDoor
open Go.RowKit

/-- What multihash.Decode hands back. -/
def DdEnd (A : Option Addr) (n0 c : Nat) (bs : List UInt8) (B : Nat) (e : Ending) (w' : World) : Prop :=
  match mhRead bs with
  | some (code, d, n) => if n = bs.length then ∃ g A' c', e = .returned (.tuple #[.pointer (some ⟨g, 0, none⟩), .nilIface]) ∧ B ≤ g ∧ w'.heap[g]? = some (.cells #[.int .u64 code, .string ⟨#[]⟩, .int .i64 d.length, .slice A' d.length c'] 171 (0, 0)) ∧ Part A n0 c bs A' d.length c' d
      else ∃ a T u, e = .returned (.tuple #[a, .iface T u])
  | none => ∃ a T u, e = .returned (.tuple #[a, .iface T u])

theorem ddEnd_none {A : Option Addr} {n0 c B : Nat} {bs : List UInt8} {w' : World} (h : mhRead bs = none) {a u : Value} {T : TypeId} : DdEnd A n0 c bs B (.returned (.tuple #[a, .iface T u])) w' := by
  unfold DdEnd; rw [h]; exact ⟨a, T, u, rfl⟩
theorem ddEnd_less {A : Option Addr} {n0 c B : Nat} {bs : List UInt8} {w' : World} {code N : Nat} {d : List UInt8} (h : mhRead bs = some (code, d, N)) (hN : N ≠ bs.length) {a u : Value} {T : TypeId} : DdEnd A n0 c bs B (.returned (.tuple #[a, .iface T u])) w' := by
  unfold DdEnd; rw [h]; simp only; rw [if_neg hN]; exact ⟨a, T, u, rfl⟩
theorem ddEnd_some {A : Option Addr} {n0 c B : Nat} {bs : List UInt8} {w' : World} {code N : Nat} {d : List UInt8} {g : Nat} {A' : Option Addr} {c' : Nat} (h : mhRead bs = some (code, d, N)) (hN : N = bs.length) (hg : B ≤ g)
    (hb : w'.heap[g]? = some (.cells #[.int .u64 code, .string ⟨#[]⟩, .int .i64 d.length, .slice A' d.length c'] 171 (0, 0))) (hp : Part A n0 c bs A' d.length c' d) : DdEnd A n0 c bs B (.returned (.tuple #[.pointer (some ⟨g, 0, none⟩), .nilIface])) w' := by
  unfold DdEnd; rw [h]; simp only; rw [if_pos hN]; exact ⟨g, A', c', rfl, hg, hb, hp⟩

set_option maxHeartbeats 1600000 in
set_option maxRecDepth 100000 in
theorem decodeP_calls (A : Option Addr) (n c : Nat) (bs : List UInt8) (w : World) (hr : RdB w A n c bs) (he : MhErrs w) (hn31 : n ≤ 2147483647) :
    Calls Tryz.prog 80 #[.slice A n c] w fun e w' => DdEnd A n c bs w.heap.size e w' ∧ Below w.heap.size w w' := by
  have HF := Kp.mk (decode_calls A n c bs w hr he hn31)
  clear hr he
  go_enter Tryz.func80, Tryz.ntmps80
  go_wp2_with fail
  refine HF.out.mono ?_
  rintro e w1 ⟨hu, hb⟩
  have HB := Kp.mk hb
  have hsz := hb.size
  clear hb HF
  unfold DcEnd at hu
  cases hrd : mhRead bs with
  | none =>
    rw [hrd] at hu
    obtain ⟨a, b, c1, A1, n1, c2, T, u, rfl⟩ := hu
    have HM := Kp.mk hrd
    clear hrd
    go_wp2_with fail
    go_ret2
    exact ⟨ddEnd_none HM.out, bel_alloc HB.out _⟩
  | some p =>
    obtain ⟨code, d, N⟩ := p
    rw [hrd] at hu
    simp only at hu
    have HM := Kp.mk hrd
    by_cases hN : N = bs.length
    · have HN := Kp.mk hN
      rw [if_pos hN] at hu
      obtain ⟨A', c', rfl, hp⟩ := hu
      have HPt := Kp.mk hp
      clear hrd hp hN
      go_wp2_with fail
      go_ret2
      exact ⟨ddEnd_some HM.out HN.out hsz (by simp [World.alloc, -World.alloc_eq]) HPt.out, bel_alloc HB.out _⟩
    · have HN := Kp.mk hN
      rw [if_neg hN] at hu
      obtain ⟨a, b, c1, A1, n1, c2, T, u, rfl⟩ := hu
      clear hrd hN
      go_wp2_with fail
      go_ret2
      exact ⟨ddEnd_less HM.out HN.out, bel_alloc HB.out _⟩

/-- What impl.MhDecode hands back. -/
def MdEnd (bs : List UInt8) (e : Ending) : Prop :=
  match mhRead bs with
  | some (code, d, n) => if n = bs.length then e = .returned (.tuple #[.int .u64 code, .string (strB d), .bool true]) else ∃ a b, e = .returned (.tuple #[a, b, .bool false])
  | none => ∃ a b, e = .returned (.tuple #[a, b, .bool false])
theorem mdEnd_none {bs : List UInt8} (h : mhRead bs = none) {a b : Value} : MdEnd bs (.returned (.tuple #[a, b, .bool false])) := by
  unfold MdEnd; rw [h]; exact ⟨a, b, rfl⟩
theorem mdEnd_less {bs : List UInt8} {code N : Nat} {d : List UInt8} (h : mhRead bs = some (code, d, N)) (hN : N ≠ bs.length) {a b : Value} : MdEnd bs (.returned (.tuple #[a, b, .bool false])) := by
  unfold MdEnd; rw [h]; simp only; rw [if_neg hN]; exact ⟨a, b, rfl⟩
theorem mdEnd_some {bs : List UInt8} {code N : Nat} {d : List UInt8} (h : mhRead bs = some (code, d, N)) (hN : N = bs.length) : MdEnd bs (.returned (.tuple #[.int .u64 code, .string (strB d), .bool true])) := by
  unfold MdEnd; rw [h]; simp only; rw [if_pos hN]; trivial






















































end Go.Proofs.YtkcpgcaccgahaaaGreatDoor
