/- Some texts in one: LdMath, LdUtil, LdRd. -/
import Derived.Test.YtldhnabhojfmiaaDoorRMath
import Derived.Test.YtldhnabhojfmiaaDoorRRdFullG
namespace Go.Proofs.YtldhnabhojfmiaaDoorR

/-- The ways in which a section is read. -/
inductive LongR
  | ended (n : Nat)
  | left
  | failed
  | read (d : List UInt8) (n : Nat)

/-- A section: a length as a varint, of at most so many bytes, and as many bytes. -/
def longRead (bs : List UInt8) (ze : Bool) (most : Nat) : LongR :=
  if bs = [] then .ended 0 else
  match uvRead bs with
  | none => .failed
  | some (x, k) => if most < x then .failed else if ze = true ∧ x = 0 then .ended k else if 0 < x ∧ k = bs.length then .left else if bs.length - k < x then .failed else .read ((bs.drop k).take x) (k + x)

theorem long_nil (ze : Bool) (most : Nat) : longRead [] ze most = .ended 0 := rfl
theorem long_bad {bs : List UInt8} {ze : Bool} {most : Nat} (h : bs ≠ []) (h1 : uvRead bs = none) : longRead bs ze most = .failed := by
  unfold longRead; rw [if_neg h, h1]
theorem long_much {bs : List UInt8} {ze : Bool} {most x k : Nat} (h : bs ≠ []) (h1 : uvRead bs = some (x, k)) (h2 : most < x) : longRead bs ze most = .failed := by
  unfold longRead; rw [if_neg h, h1]; simp only; rw [if_pos h2]
theorem long_zero {bs : List UInt8} {most k : Nat} (h : bs ≠ []) (h1 : uvRead bs = some (0, k)) : longRead bs true most = .ended k := by
  unfold longRead; rw [if_neg h, h1]; simp
theorem long_left {bs : List UInt8} {ze : Bool} {most x k : Nat} (h : bs ≠ []) (h1 : uvRead bs = some (x, k)) (h2 : ¬ most < x) (h3 : ¬ (ze = true ∧ x = 0)) (h4 : 0 < x ∧ k = bs.length) : longRead bs ze most = .left := by
  unfold longRead; rw [if_neg h, h1]; simp only; rw [if_neg h2, if_neg h3, if_pos h4]
theorem long_less {bs : List UInt8} {ze : Bool} {most x k : Nat} (h : bs ≠ []) (h1 : uvRead bs = some (x, k)) (h2 : ¬ most < x) (h3 : ¬ (ze = true ∧ x = 0)) (h4 : ¬ (0 < x ∧ k = bs.length)) (h5 : bs.length - k < x) : longRead bs ze most = .failed := by
  unfold longRead; rw [if_neg h, h1]; simp only; rw [if_neg h2, if_neg h3, if_neg h4, if_pos h5]
theorem long_read {bs : List UInt8} {ze : Bool} {most x k : Nat} (h : bs ≠ []) (h1 : uvRead bs = some (x, k)) (h2 : ¬ most < x) (h3 : ¬ (ze = true ∧ x = 0)) (h4 : ¬ (0 < x ∧ k = bs.length)) (h5 : ¬ bs.length - k < x) : longRead bs ze most = .read ((bs.drop k).take x) (k + x) := by
  unfold longRead; rw [if_neg h, h1]; simp only; rw [if_neg h2, if_neg h3, if_neg h4, if_neg h5]
theorem uv_ne {bs : List UInt8} {x k : Nat} (h1 : uvRead bs = some (x, k)) : bs ≠ [] := by rintro rfl; cases h1
end Go.Proofs.YtldhnabhojfmiaaDoorR
namespace Go.Proofs.YtldhnabhojfmiaaDoorR
open Go.RowKit

set_option maxHeartbeats 2000000 in
set_option maxRecDepth 100000 in
/-- io.ReadFull, where as many bytes are there. -/
theorem fullAllG_calls (g ga gd n c o m cm i : Nat) (q : Int) (bs : List UInt8) (cs : Array Value) (w : World) (hg : RdrAt w g ga n c i q) (hr : RdB w (some ⟨ga, 0, none⟩) n c bs) (hag : ga < g) (hgd : g < gd)
    (hd : w.heap[gd]? = some (.cells cs 5 (0, 0))) (hos : o + m ≤ cs.size) (hmc : m ≤ cm) (hm : 0 < m) (hmi : i + m ≤ n) (hn : n ≤ 4611686018427387904) :
    Calls Tryd.prog 64 #[.iface 77 (.pointer (some ⟨g, 0, none⟩)), .slice (some ⟨gd, o, none⟩) m cm] w fun e w' => (e = .returned (.tuple #[.int .i64 m, .nilIface]) ∧ RdrAt w' g ga n c (i + m) (-1) ∧ w'.heap[gd]? = some (.cells (putLs cs o (Lib.byteCells ((bs.drop i).take m))) 5 (0, 0))) ∧ Ex (fun k => k = g ∨ k = gd) w w' := by
  have H := Kp.mk (readAll_calls g ga gd n c o m cm i q bs cs w hg hr hag hgd hd hos hmc hm hmi (by omega) hn)
  clear hg hr hag hgd hd hm hmi hn hos hmc
  go_enter Tryd.func64, Tryd.ntmps64
  go_wp2_with fail
  refine H.out.mono ?_
  rintro e w1 ⟨⟨rfl, h1, h2⟩, h3⟩
  have HK := Kp.mk (And.intro h1 (And.intro h2 h3))
  clear h1 h2 h3
  go_wp2_with fail
  go_ret2
  exact ⟨⟨rfl, HK.out.1, HK.out.2.1⟩, HK.out.2.2⟩
theorem fullAll_calls (g ga gd n c m i : Nat) (q : Int) (bs : List UInt8) (w : World) (hg : RdrAt w g ga n c i q) (hr : RdB w (some ⟨ga, 0, none⟩) n c bs) (hag : ga < g) (hgd : g < gd)
    (hd : w.heap[gd]? = some (.cells (zeros m) 5 (0, 0))) (hm : 0 < m) (hmi : i + m ≤ n) (hn : n ≤ 4611686018427387904) :
    Calls Tryd.prog 64 #[.iface 77 (.pointer (some ⟨g, 0, none⟩)), .slice (some ⟨gd, 0, none⟩) m m] w fun e w' => (e = .returned (.tuple #[.int .i64 m, .nilIface]) ∧ RdrAt w' g ga n c (i + m) (-1) ∧ RdB w' (some ⟨gd, 0, none⟩) m m ((bs.drop i).take m)) ∧ Ex (fun k => k = g ∨ k = gd) w w' := by
  refine (fullAllG_calls g ga gd n c 0 m m i q bs (zeros m) w hg hr hag hgd hd (by rw [zeros_size]; omega) (Nat.le_refl _) hm hmi hn).mono ?_
  rintro e w' ⟨⟨rfl, h1, h2⟩, h3⟩
  have hl : ((bs.drop i).take m).length = m := by rw [List.length_take, List.length_drop, hr.len]; omega
  have h4 := rd_put (cm := m) h2 (by rw [zeros_size, hl]; omega) (by omega) (by omega)
  rw [hl] at h4
  exact ⟨⟨rfl, h1, h4⟩, h3⟩

/-- A bytes.Reader as a reader of bytes. -/
theorem byteRdr_of (g ga n c i : Nat) (bs : List UInt8) (ve vu vo vn : Value) (w : World) (hr : RdB w (some ⟨ga, 0, none⟩) n c bs) (hag : ga < g) (hn : n ≤ 4611686018427387904) (hlt : 2 < g) (he : ∀ w', Ex (· = g) w w' → RdErrs ve vu vo vn w') :
    ByteRdr 77 (.pointer (some ⟨g, 0, none⟩)) 115 (bs.drop i) ve vu vo vn (fun k w' => (∃ q, RdrAt w' g ga n c (i + k) q) ∧ Ex (· = g) w w') := by
  have hl := hr.len
  refine ⟨fun _ => by kernel_rfl, enters_of Tryd.func115 (by kernel_rfl) rfl, ?_, ?_, fun k w' h => he w' h.2, fun k w' n h => ⟨h.1, h.2.drewN n⟩⟩
  · rintro k w' b _ ⟨⟨q, h1⟩, h2⟩ hb
    rw [List.getElem?_drop] at hb
    refine (rdByte_calls g ga n c (i + k) q bs w' h1 (hr.ex h2 (Nat.ne_of_lt hag)) hag b hb hn).mono ?_
    rintro e w2 ⟨rfl, h3, h4⟩
    exact ⟨rfl, ⟨_, h3⟩, h2.trans h4⟩
  · rintro k w' ⟨⟨q, h1⟩, h2⟩ hb
    rw [List.getElem?_drop, List.getElem?_eq_none_iff] at hb
    refine (rdByteEnd_calls g ga n c (i + k) q ve w' h1 (by omega) (he w' h2).eof hlt).mono ?_
    rintro e w2 ⟨rfl, h3, h4⟩
    exact ⟨rfl, ⟨_, h3⟩, h2.trans h4⟩











/-- What util.LdReadSize hands back of what stands behind place i. -/
def LsEnd (g ga n c i : Nat) (rest : List UInt8) (ze : Bool) (most : Nat) (ve : Value) (w : World) (e : Ending) (w' : World) : Prop :=
  (∃ j q, RdrAt w' g ga n c j q) ∧ Ex (· = g) w w' ∧
  match uvRead rest with
  | some (x, k) => if x = 0 ∧ ze = true then e = .returned (.tuple #[.int .u64 0, ve]) ∧ (∃ q, RdrAt w' g ga n c (i + k) q)
    else if most < x then ∃ v, e = .returned (.tuple #[.int .u64 0, v]) ∧ NotEof v w'
    else e = .returned (.tuple #[.int .u64 x, .nilIface]) ∧ ∃ q, RdrAt w' g ga n c (i + k) q
  | none => ∃ v, e = .returned (.tuple #[.int .u64 0, v]) ∧ ((rest = [] ∧ v = ve) ∨ (rest ≠ [] ∧ NotEof v w'))











































































end Go.Proofs.YtldhnabhojfmiaaDoorR
namespace Go.Proofs.YtldhnabhojfmiaaDoorR
open Go.RowKit

theorem mk_bytes_u (t : TypeId) (ht : Tryd.prog.underlying t = some (.slice 5)) (n : Nat) (hn : n ≤ 140737488355328) (W : World) :
    (Instr.makeSlice t (.int .u64 (n : Int)) (.int .u64 (n : Int))).run Tryd.prog W = .ok (.slice (some ⟨W.heap.size, 0, none⟩) n n) (W.alloc (.cells (zeros n) 5)) := by
  obtain ⟨i, hi, hz, hs, hb⟩ := info_parts info_u8
  have h := run_make (P := Tryd.prog) W t 5 i _ ht hi hz .u64 .u64 (n : Int) (n : Int) (by omega) (by omega) (by rw [hb]; omega) (by omega)
  simp only [Int.toNat_natCast, hs, Nat.mul_one] at h
  have hm : madeCells (Value.cells (.int .u8 0)) n = zeros n := by
    apply Array.ext
    · rw [size_madeCells, zeros_size]
    · intro j h1 h2
      simp [madeCells, zeros, Value.cells, Nat.mod_one]
  rw [hm] at h
  exact h

theorem rd_of_zero {w : World} {g : Nat} (_h : w.heap[g]? = some (.cells (zeros 0) 5 (0, 0))) {xs : List UInt8} : RdB w (some ⟨g, 0, none⟩) (xs.take 0).length 0 (xs.take 0) := by
  rw [List.take_zero]
  exact ⟨rfl, Nat.le_refl _, by omega, fun h => by simp at h⟩

/-- What util.LdRead hands back of what stands behind place i. -/
def LuEnd (g ga n c i : Nat) (r : LongR) (ve : Value) (w : World) (e : Ending) (w' : World) : Prop :=
  (∃ j q, RdrAt w' g ga n c j q) ∧ Ex (· = g) w w' ∧
  match r with
  | .ended _ => e = .returned (.tuple #[.slice none 0 0, ve])
  | .left => False
  | .failed => ∃ v, e = .returned (.tuple #[.slice none 0 0, v]) ∧ NotEof v w'
  | .read d N => (∃ A cap, e = .returned (.tuple #[.slice A d.length cap, .nilIface]) ∧ RdB w' A d.length cap d) ∧ ∃ q, RdrAt w' g ga n c (i + N) q































































































































end Go.Proofs.YtldhnabhojfmiaaDoorR
