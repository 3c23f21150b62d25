/- The walks of the functions that read a multihash. -/
import Derived.Test.YtdppnlomhlnbkaaDoorUv
import Derived.Test.YtdppnlomhlnbkaaDoorMhMath
namespace Go.Proofs.YtdppnlomhlnbkaaDoor
open Go.RowKit

/-- The variables of packages varint and multihash hold errors. -/
structure MhErrs (w : World) : Prop where
  uv : UvErrs w
  short : ∃ T v, w.cell? ⟨7, 0, none⟩ = some (.iface T v)
theorem MhErrs.below {w w1 : World} (h : MhErrs w) (hb : Below w.heap.size w w1) : MhErrs w1 := by
  obtain ⟨h1, ⟨a, b, h2⟩⟩ := h
  exact ⟨h1.below hb, ⟨a, b, cell_bel hb h2⟩⟩

/-- A slice that reads as these bytes wherever another one reads as those. -/
def Part (A : Option Addr) (n c : Nat) (bs : List UInt8) (A' : Option Addr) (n' c' : Nat) (bs' : List UInt8) : Prop := ∀ w : World, RdB w A n c bs → RdB w A' n' c' bs'

/-- What multihash.uvarint hands back: a number and the rest of the bytes, or an error. -/
def MuEnd (A : Option Addr) (n c : Nat) (bs : List UInt8) (e : Ending) : Prop :=
  match uvRead bs with
  | some (x, k) => ∃ A', e = .returned (.tuple #[.int .u64 x, .slice A' (n - k) (c - k), .nilIface]) ∧ Part A n c bs A' (n - k) (c - k) (bs.drop k)
  | none => ∃ x v T u, e = .returned (.tuple #[.int .u64 x, v, .iface T u])
theorem muEnd_none {A : Option Addr} {n c : Nat} {bs : List UInt8} (h : uvRead bs = none) {x : Int} {v u : Value} {T : TypeId} : MuEnd A n c bs (.returned (.tuple #[.int .u64 x, v, .iface T u])) := by
  unfold MuEnd; rw [h]; exact ⟨x, v, T, u, rfl⟩
theorem muEnd_some {A : Option Addr} {n c : Nat} {bs : List UInt8} {x k : Nat} {A' : Option Addr} (h : uvRead bs = some (x, k)) (hr : Part A n c bs A' (n - k) (c - k) (bs.drop k)) : MuEnd A n c bs (.returned (.tuple #[.int .u64 x, .slice A' (n - k) (c - k), .nilIface])) := by
  unfold MuEnd; rw [h]; exact ⟨A', rfl, hr⟩

set_option maxHeartbeats 800000 in
set_option maxRecDepth 100000 in
theorem mhUvarint_calls (A : Option Addr) (n c : Nat) (bs : List UInt8) (w : World) (hr : RdB w A n c bs) (he : UvErrs w) :
    Calls Tryd.prog 70 #[.slice A n c] w fun e w' => MuEnd A n c bs e ∧ Below w.heap.size w w' := by
  have HF := Kp.mk (fromUv_calls A n c bs w hr he)
  have HR := Kp.mk hr
  have hl := hr.len
  have hc := hr.cap
  have hm := hr.most
  clear hr he
  go_enter Tryd.func70, Tryd.ntmps70
  go_wp2_with fail
  refine HF.out.mono ?_
  rintro e w1 ⟨hu, hb⟩
  have HR1 := Kp.mk (HR.out.below hb)
  have HB := Kp.mk hb
  clear hb HF HR
  cases hrd : uvRead bs with
  | none =>
    rw [hrd] at hu
    obtain ⟨T, v, rfl⟩ := hu
    have HD := Kp.mk hrd
    clear hrd
    go_wp2_with fail
    go_ret3
    exact ⟨muEnd_none HD.out, HB.out⟩
  | some p =>
    obtain ⟨x, k⟩ := p
    rw [hrd] at hu
    obtain rfl : e = _ := hu
    have hk := uvRead_some hrd
    have hk1 := hk.1
    have hk2 : k ≤ n := by omega
    have HD := Kp.mk hrd
    obtain ⟨A', hcut, hA'⟩ := rd_cut 62 .i64 Tryd.underlying62 A n c k hk2
    have HA := Kp.mk (fun w => hA' w bs)
    have q0 : ((k : Int) == 0) = false := beq_eq_false_iff_ne.2 (by omega)
    clear hrd hk hA' HR1
    go_wp2_with fail
    go_quiet (fail)
    go_wp2
    go_ret3
    exact ⟨muEnd_some HD.out HA.out, bel_drewN HB.out _⟩

end Go.Proofs.YtdppnlomhlnbkaaDoor
