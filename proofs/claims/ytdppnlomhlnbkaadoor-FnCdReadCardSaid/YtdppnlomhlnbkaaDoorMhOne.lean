/- The walks of multihash.Decode, impl.MhDecode and the reference's functions that write varints and multihashes. -/
import Derived.Test.YtdppnlomhlnbkaaDoorMhDec
namespace Go.Proofs.YtdppnlomhlnbkaaDoor
open Go.RowKit

/-- What multihash.Decode hands back. -/
def DdEnd (A : Option Addr) (n0 c : Nat) (bs : List UInt8) (B : Nat) (e : Ending) (w' : World) : Prop :=
  match mhRead bs with
  | some (code, d, n) => if n = bs.length then ∃ g A' c', e = .returned (.tuple #[.pointer (some ⟨g, 0, none⟩), .nilIface]) ∧ B ≤ g ∧ w'.heap[g]? = some (.cells #[.int .u64 code, .string ⟨#[]⟩, .int .i64 d.length, .slice A' d.length c'] 105 (0, 0)) ∧ Part A n0 c bs A' d.length c' d
      else ∃ a T u, e = .returned (.tuple #[a, .iface T u])
  | none => ∃ a T u, e = .returned (.tuple #[a, .iface T u])

theorem ddEnd_none {A : Option Addr} {n0 c B : Nat} {bs : List UInt8} {w' : World} (h : mhRead bs = none) {a u : Value} {T : TypeId} : DdEnd A n0 c bs B (.returned (.tuple #[a, .iface T u])) w' := by
  unfold DdEnd; rw [h]; exact ⟨a, T, u, rfl⟩
theorem ddEnd_less {A : Option Addr} {n0 c B : Nat} {bs : List UInt8} {w' : World} {code N : Nat} {d : List UInt8} (h : mhRead bs = some (code, d, N)) (hN : N ≠ bs.length) {a u : Value} {T : TypeId} : DdEnd A n0 c bs B (.returned (.tuple #[a, .iface T u])) w' := by
  unfold DdEnd; rw [h]; simp only; rw [if_neg hN]; exact ⟨a, T, u, rfl⟩
theorem ddEnd_some {A : Option Addr} {n0 c B : Nat} {bs : List UInt8} {w' : World} {code N : Nat} {d : List UInt8} {g : Nat} {A' : Option Addr} {c' : Nat} (h : mhRead bs = some (code, d, N)) (hN : N = bs.length) (hg : B ≤ g)
    (hb : w'.heap[g]? = some (.cells #[.int .u64 code, .string ⟨#[]⟩, .int .i64 d.length, .slice A' d.length c'] 105 (0, 0))) (hp : Part A n0 c bs A' d.length c' d) : DdEnd A n0 c bs B (.returned (.tuple #[.pointer (some ⟨g, 0, none⟩), .nilIface])) w' := by
  unfold DdEnd; rw [h]; simp only; rw [if_pos hN]; exact ⟨g, A', c', rfl, hg, hb, hp⟩

set_option maxHeartbeats 1600000 in
set_option maxRecDepth 100000 in
theorem decodeP_calls (A : Option Addr) (n c : Nat) (bs : List UInt8) (w : World) (hr : RdB w A n c bs) (he : MhErrs w) (hn31 : n ≤ 2147483647) :
    Calls Tryd.prog 45 #[.slice A n c] w fun e w' => DdEnd A n c bs w.heap.size e w' ∧ Below w.heap.size w w' := by
  have HF := Kp.mk (decode_calls A n c bs w hr he hn31)
  clear hr he
  go_enter Tryd.func45, Tryd.ntmps45
  go_wp2_with fail
  refine HF.out.mono ?_
  rintro e w1 ⟨hu, hb⟩
  have HB := Kp.mk hb
  have hsz := hb.size
  clear hb HF
  unfold DcEnd at hu
  cases hrd : mhRead bs with
  | none =>
    rw [hrd] at hu
    obtain ⟨a, b, c1, A1, n1, c2, T, u, rfl⟩ := hu
    have HM := Kp.mk hrd
    clear hrd
    go_wp2_with fail
    go_ret2
    exact ⟨ddEnd_none HM.out, bel_alloc HB.out _⟩
  | some p =>
    obtain ⟨code, d, N⟩ := p
    rw [hrd] at hu
    simp only at hu
    have HM := Kp.mk hrd
    by_cases hN : N = bs.length
    · have HN := Kp.mk hN
      rw [if_pos hN] at hu
      obtain ⟨A', c', rfl, hp⟩ := hu
      have HPt := Kp.mk hp
      clear hrd hp hN
      go_wp2_with fail
      go_ret2
      exact ⟨ddEnd_some HM.out HN.out hsz (by simp [World.alloc, -World.alloc_eq]) HPt.out, bel_alloc HB.out _⟩
    · have HN := Kp.mk hN
      rw [if_neg hN] at hu
      obtain ⟨a, b, c1, A1, n1, c2, T, u, rfl⟩ := hu
      clear hrd hN
      go_wp2_with fail
      go_ret2
      exact ⟨ddEnd_less HM.out HN.out, bel_alloc HB.out _⟩

/-- What impl.MhDecode hands back. -/
def MdEnd (bs : List UInt8) (e : Ending) : Prop :=
  match mhRead bs with
  | some (code, d, n) => if n = bs.length then e = .returned (.tuple #[.int .u64 code, .string (strB d), .bool true]) else ∃ a b, e = .returned (.tuple #[a, b, .bool false])
  | none => ∃ a b, e = .returned (.tuple #[a, b, .bool false])
theorem mdEnd_none {bs : List UInt8} (h : mhRead bs = none) {a b : Value} : MdEnd bs (.returned (.tuple #[a, b, .bool false])) := by
  unfold MdEnd; rw [h]; exact ⟨a, b, rfl⟩
theorem mdEnd_less {bs : List UInt8} {code N : Nat} {d : List UInt8} (h : mhRead bs = some (code, d, N)) (hN : N ≠ bs.length) {a b : Value} : MdEnd bs (.returned (.tuple #[a, b, .bool false])) := by
  unfold MdEnd; rw [h]; simp only; rw [if_neg hN]; exact ⟨a, b, rfl⟩
theorem mdEnd_some {bs : List UInt8} {code N : Nat} {d : List UInt8} (h : mhRead bs = some (code, d, N)) (hN : N = bs.length) : MdEnd bs (.returned (.tuple #[.int .u64 code, .string (strB d), .bool true])) := by
  unfold MdEnd; rw [h]; simp only; rw [if_pos hN]; trivial






















































end Go.Proofs.YtdppnlomhlnbkaaDoor
