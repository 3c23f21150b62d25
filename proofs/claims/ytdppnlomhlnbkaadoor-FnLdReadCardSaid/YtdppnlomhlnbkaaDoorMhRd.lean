/- The walks of the functions that read a multihash out of bytes. -/
import Derived.Test.YtdppnlomhlnbkaaDoorMh
namespace Go.Proofs.YtdppnlomhlnbkaaDoor
open Go.RowKit

set_option maxHeartbeats 800000 in
/-- errors.New: an error. -/
theorem errNew_calls (s : ByteArray) (w : World) :
    Calls Tryd.prog 40 #[.string s] w fun e w' => (∃ T v, e = .returned (.iface T v)) ∧ Below w.heap.size w w' := by
  go_enter Tryd.func40, Tryd.ntmps40
  go_wp2
  go_ret
  exact ⟨⟨_, _, rfl⟩, bel_alloc (Below.refl _ _) _⟩

/-- What readMultihashFromBuf hands back. -/
def MhEnd (A : Option Addr) (n0 c : Nat) (bs : List UInt8) (e : Ending) : Prop :=
  match mhRead bs with
  | some (code, d, n) => ∃ A' c', e = .returned (.tuple #[.int .i64 n, .int .u64 code, .slice A' d.length c', .nilIface]) ∧ Part A n0 c bs A' d.length c' d
  | none => ∃ T u, e = .returned (.tuple #[.int .i64 0, .int .u64 0, .slice none 0 0, .iface T u])
theorem mhEnd_none {A : Option Addr} {n0 c : Nat} {bs : List UInt8} (h : mhRead bs = none) {u : Value} {T : TypeId} : MhEnd A n0 c bs (.returned (.tuple #[.int .i64 0, .int .u64 0, .slice none 0 0, .iface T u])) := by
  unfold MhEnd; rw [h]; exact ⟨T, u, rfl⟩
theorem mhEnd_some {A : Option Addr} {n0 c : Nat} {bs : List UInt8} {code N k : Nat} {d : List UInt8} {n : Int} {A' : Option Addr} {c' : Nat} (h : mhRead bs = some (code, d, N)) (hn : n = (N : Int)) (hk : k = d.length) (hr : Part A n0 c bs A' k c' d) :
    MhEnd A n0 c bs (.returned (.tuple #[.int .i64 n, .int .u64 code, .slice A' k c', .nilIface])) := by
  subst hn hk
  unfold MhEnd; rw [h]; exact ⟨A', c', rfl, hr⟩

set_option maxHeartbeats 2000000 in
set_option maxRecDepth 100000 in
theorem mhBuf_calls (A : Option Addr) (n c : Nat) (bs : List UInt8) (w : World) (hr : RdB w A n c bs) (he : MhErrs w) (hn31 : n ≤ 2147483647) :
    Calls Tryd.prog 56 #[.slice A n c] w fun e w' => MhEnd A n c bs e ∧ Below w.heap.size w w' := by
  have HR := Kp.mk hr
  have HE := Kp.mk he
  have hl := hr.len
  have hc := hr.cap
  have hm := hr.most
  obtain ⟨T0, v0, g0⟩ := he.short
  clear hr he
  by_cases h2 : n < 2
  · have HM := Kp.mk (mhRead_short (bs := bs) (by omega))
    go_enter Tryd.func56, Tryd.ntmps56
    go_wp2_with fail
    go_quiet (fail)
    go_wp2
    (try simp only [Exit.inBlock, Exit.then]); refine bodyPost_ret (results_tmp4 rfl _ _ _) rfl ?_
    exact ⟨mhEnd_none HM.out, below_self_drewN _ _⟩
  · clear g0
    go_enter Tryd.func56, Tryd.ntmps56
    go_wp2_with fail
    refine (mhUvarint_calls A n c bs _ HR.out HE.out.uv).mono ?_
    rintro e w1 ⟨hu, hb⟩
    have HE1 := Kp.mk (HE.out.below hb)
    have HR1 := Kp.mk (HR.out.below hb)
    have HB := Kp.mk hb
    clear hb HE HR
    unfold MuEnd at hu
    cases hrd : uvRead bs with
    | none =>
      rw [hrd] at hu
      obtain ⟨x, v, T, u, rfl⟩ := hu
      have HM := Kp.mk (mhRead_none1 hrd)
      clear hrd
      go_wp2_with fail
      (try simp only [Exit.inBlock, Exit.then]); refine bodyPost_ret (results_tmp4 rfl _ _ _) rfl ?_
      exact ⟨mhEnd_none HM.out, HB.out⟩
    | some p =>
      obtain ⟨code, k⟩ := p
      rw [hrd] at hu
      obtain ⟨A', rfl, hp1⟩ := hu
      have hr := hp1 _ HR1.out
      have HP1 := Kp.mk hp1
      have hk := uvRead_some hrd
      have hk2 : k ≤ n := by omega
      have HD := Kp.mk hrd
      have HR := Kp.mk hr
      clear hrd hk hr hp1 HR1
      go_wp2_with fail
      refine (mhUvarint_calls A' (n - k) (c - k) (bs.drop k) _ HR.out HE1.out.uv).mono ?_
      rintro e w2 ⟨hu, hb⟩
      have HB2 := Kp.mk (bel_then HB.out hb)
      clear hb HE1 HR HB
      unfold MuEnd at hu
      cases hrd2 : uvRead (bs.drop k) with
      | none =>
        rw [hrd2] at hu
        obtain ⟨x, v, T, u, rfl⟩ := hu
        have HM := Kp.mk (mhRead_none2 HD.out hrd2)
        clear hrd2
        go_wp2_with fail
        (try simp only [Exit.inBlock, Exit.then]); refine bodyPost_ret (results_tmp4 rfl _ _ _) rfl ?_
        exact ⟨mhEnd_none HM.out, HB2.out⟩
      | some p =>
        obtain ⟨size, m⟩ := p
        rw [hrd2] at hu
        obtain ⟨A2, rfl, hp2⟩ := hu
        have HP2 := Kp.mk hp2
        have hm2 := uvRead_some hrd2
        rw [List.length_drop] at hm2
        have hm3 : m ≤ n - k := by omega
        have hsz := hm2.2.2.2
        have HD2 := Kp.mk hrd2
        clear hrd2 hm2 hp2
        by_cases hbig : n - k - m < size
        · have HM := Kp.mk (mhRead_none3 HD.out HD2.out (by omega))
          by_cases h31 : 2147483647 < size
          · clear hsz
            go_wp2_with fail
            refine (errNew_calls _ _).mono ?_
            rintro e w3 ⟨⟨T, v, rfl⟩, hb⟩
            have HB3 := Kp.mk (bel_then HB2.out hb)
            clear hb
            go_wp2_with fail
            (try simp only [Exit.inBlock, Exit.then]); refine bodyPost_ret (results_tmp4 rfl _ _ _) rfl ?_
            exact ⟨mhEnd_none HM.out, HB3.out⟩
          · clear hsz
            go_wp2_with fail
            refine (errNew_calls _ _).mono ?_
            rintro e w3 ⟨⟨T, v, rfl⟩, hb⟩
            have HB3 := Kp.mk (bel_then HB2.out hb)
            clear hb
            go_wp2_with fail
            (try simp only [Exit.inBlock, Exit.then]); refine bodyPost_ret (results_tmp4 rfl _ _ _) rfl ?_
            exact ⟨mhEnd_none HM.out, HB3.out⟩
        · have HM := Kp.mk (mhRead_some' HD.out HD2.out (by omega))
          obtain ⟨A3, hcut, hA3⟩ := rd_to 62 .u64 Tryd.underlying62 A2 (n - k - m) (c - k - m) size (by omega) (by omega)
          have HA : Kp (Part A n c bs A3 size (c - k - m) (((bs.drop k).drop m).take size)) := ⟨fun W h => hA3 W _ (HP2.out W (HP1.out W h))⟩
          clear hsz hA3
          go_wp2_with fail
          go_quiet (fail)
          go_wp2
          (try simp only [Exit.inBlock, Exit.then]); refine bodyPost_ret (results_tmp4 rfl _ _ _) rfl ?_
          refine ⟨mhEnd_some HM.out (by omega) (by rw [List.length_take, List.length_drop]; omega) ?_, bel_drewN HB2.out _⟩
          rw [← List.drop_drop]
          exact HA.out

/-- What MHFromBytes hands back. -/
def MfEnd (A : Option Addr) (n0 c : Nat) (bs : List UInt8) (e : Ending) : Prop :=
  match mhRead bs with
  | some (_, _, n) => ∃ A' c', e = .returned (.tuple #[.int .i64 n, .slice A' n c', .nilIface]) ∧ Part A n0 c bs A' n c' (bs.take n)
  | none => ∃ T u, e = .returned (.tuple #[.int .i64 0, .slice none 0 0, .iface T u])
theorem mfEnd_none {A : Option Addr} {n0 c : Nat} {bs : List UInt8} (h : mhRead bs = none) {u : Value} {T : TypeId} : MfEnd A n0 c bs (.returned (.tuple #[.int .i64 0, .slice none 0 0, .iface T u])) := by
  unfold MfEnd; rw [h]; exact ⟨T, u, rfl⟩
theorem mfEnd_some {A : Option Addr} {n0 c : Nat} {bs : List UInt8} {code N : Nat} {d : List UInt8} {A' : Option Addr} {c' : Nat} (h : mhRead bs = some (code, d, N)) (hr : Part A n0 c bs A' N c' (bs.take N)) :
    MfEnd A n0 c bs (.returned (.tuple #[.int .i64 N, .slice A' N c', .nilIface])) := by
  unfold MfEnd; rw [h]; exact ⟨A', c', rfl, hr⟩

set_option maxHeartbeats 800000 in
theorem mhFrom_calls (A : Option Addr) (n c : Nat) (bs : List UInt8) (w : World) (hr : RdB w A n c bs) (he : MhErrs w) (hn31 : n ≤ 2147483647) :
    Calls Tryd.prog 43 #[.slice A n c] w fun e w' => MfEnd A n c bs e ∧ Below w.heap.size w w' := by
  have HF := Kp.mk (mhBuf_calls A n c bs w hr he hn31)
  have HR := Kp.mk hr
  have hl := hr.len
  have hc := hr.cap
  have hm := hr.most
  clear hr he
  go_enter Tryd.func43, Tryd.ntmps43
  go_wp2_with fail
  refine HF.out.mono ?_
  rintro e w1 ⟨hu, hb⟩
  have HR1 := Kp.mk (HR.out.below hb)
  have HB := Kp.mk hb
  clear hb HF HR
  unfold MhEnd at hu
  cases hrd : mhRead bs with
  | none =>
    rw [hrd] at hu
    obtain ⟨T, u, rfl⟩ := hu
    have HM := Kp.mk hrd
    clear hrd
    go_wp2_with fail
    go_ret3
    exact ⟨mfEnd_none HM.out, HB.out⟩
  | some p =>
    obtain ⟨code, d, N⟩ := p
    rw [hrd] at hu
    obtain ⟨A', c', rfl, _⟩ := hu
    have hN := mhRead_lt hrd
    have hN2 : N ≤ n := by omega
    have HM := Kp.mk hrd
    obtain ⟨A3, hcut, hA3⟩ := rd_to 62 .i64 Tryd.underlying62 A n c N hN2 hc
    have HA : Kp (Part A n c bs A3 N c (bs.take N)) := ⟨fun W h => hA3 W _ h⟩
    clear hA3 hrd HR1 hN
    go_wp2_with fail
    go_quiet (fail)
    go_wp2
    go_ret3
    exact ⟨mfEnd_some HM.out HA.out, bel_drewN HB.out _⟩

/-- What impl.MhRead hands back. -/
def MrEnd (bs : List UInt8) (e : Ending) : Prop :=
  match mhRead bs with
  | some (_, _, n) => e = .returned (.tuple #[.int .i64 n, .bool true])
  | none => ∃ n, e = .returned (.tuple #[.int .i64 n, .bool false])
theorem mrEnd_none {bs : List UInt8} (h : mhRead bs = none) {n : Int} : MrEnd bs (.returned (.tuple #[.int .i64 n, .bool false])) := by
  unfold MrEnd; rw [h]; exact ⟨n, rfl⟩
theorem mrEnd_some {bs : List UInt8} {code N : Nat} {d : List UInt8} (h : mhRead bs = some (code, d, N)) : MrEnd bs (.returned (.tuple #[.int .i64 N, .bool true])) := by
  unfold MrEnd; rw [h]






































end Go.Proofs.YtdppnlomhlnbkaaDoor
