/- Some texts in one: Less, Less2. -/
import Derived.Test.YtgjocdnpephcgaaGreatDoorLlrbA
import Derived.Lib.Bytealg
namespace Go.Proofs.YtgjocdnpephcgaaGreatDoor
open Go.RowKit

/-- The one digest stands ahead of the other. -/
def dLt (a b : List UInt8) : Bool := decide (Lib.compareBytes a b < 0)
theorem cmp_swap : ∀ a b : List UInt8, Lib.compareBytes b a = - Lib.compareBytes a b
  | [], [] => rfl
  | [], _ :: _ => rfl
  | _ :: _, [] => rfl
  | a :: xs, b :: ys => by
    unfold Lib.compareBytes
    by_cases h1 : a < b
    · have h2 : ¬ b < a := fun h => by rw [UInt8.lt_iff_toNat_lt] at h h1; omega
      simp [h1, h2]
    · by_cases h2 : b < a
      · simp [h1, h2]
      · simp [h1, h2, cmp_swap xs ys]
theorem cmp_zero : ∀ a b : List UInt8, Lib.compareBytes a b = 0 → a = b
  | [], [], _ => rfl
  | [], _ :: _, h => by simp [Lib.compareBytes] at h
  | _ :: _, [], h => by simp [Lib.compareBytes] at h
  | a :: xs, b :: ys, h => by
    unfold Lib.compareBytes at h
    by_cases h1 : a < b
    · simp [h1] at h
    · by_cases h2 : b < a
      · simp [h1, h2] at h
      · simp only [if_neg h1, if_neg h2] at h
        have : a = b := UInt8.toNat_inj.1 (by rw [UInt8.lt_iff_toNat_lt] at h1 h2; omega)
        rw [this, cmp_zero xs ys h]
theorem cmp_trans : ∀ a b c : List UInt8, Lib.compareBytes a b ≤ 0 → Lib.compareBytes b c ≤ 0 → Lib.compareBytes a c ≤ 0
  | [], _, [], _, _ => by simp [Lib.compareBytes]
  | [], _, _ :: _, _, _ => by simp [Lib.compareBytes]
  | _ :: _, [], _, h, _ => by simp [Lib.compareBytes] at h
  | _ :: _, _ :: _, [], _, h => by simp [Lib.compareBytes] at h
  | a :: xs, b :: ys, c :: zs, h1, h2 => by
    unfold Lib.compareBytes at h1 h2 ⊢
    simp only [UInt8.lt_iff_toNat_lt] at h1 h2 ⊢
    by_cases p1 : a.toNat < b.toNat
    · by_cases q1 : b.toNat < c.toNat
      · rw [if_pos (by omega)]; omega
      · by_cases q2 : c.toNat < b.toNat
        · simp [q1, q2] at h2
        · rw [if_pos (by omega)]; omega
    · by_cases p2 : b.toNat < a.toNat
      · simp [p1, p2] at h1
      · by_cases q1 : b.toNat < c.toNat
        · rw [if_pos (by omega)]; omega
        · by_cases q2 : c.toNat < b.toNat
          · simp [q1, q2] at h2
          · rw [if_neg p1, if_neg p2] at h1
            rw [if_neg q1, if_neg q2] at h2
            rw [if_neg (by omega), if_neg (by omega)]
            exact cmp_trans xs ys zs h1 h2
/-- a stands not behind b. -/
def dLe (a b : List UInt8) : Prop := dLt b a = false
theorem dLe_iff (a b : List UInt8) : dLe a b ↔ Lib.compareBytes a b ≤ 0 := by
  unfold dLe dLt
  rw [decide_eq_false_iff_not, cmp_swap a b]
  omega
theorem dLt_iff (a b : List UInt8) : dLt a b = true ↔ Lib.compareBytes a b < 0 := by unfold dLt; rw [decide_eq_true_iff]
theorem dLe_trans {a b c : List UInt8} (h : dLe a b) (k : dLe b c) : dLe a c := (dLe_iff _ _).2 (cmp_trans _ _ _ ((dLe_iff _ _).1 h) ((dLe_iff _ _).1 k))
theorem dLe_of_lt {a b : List UInt8} (h : dLt a b = true) : dLe a b := (dLe_iff _ _).2 (by have := (dLt_iff _ _).1 h; omega)
theorem dLe_refl (a : List UInt8) : dLe a a := by
  rw [dLe_iff]
  have := cmp_swap a a
  omega
theorem dLe_antisymm {a b : List UInt8} (h : dLe a b) (k : dLe b a) : a = b := cmp_zero a b (by
  have h1 := (dLe_iff _ _).1 h
  have h2 := (dLe_iff _ _).1 k
  rw [cmp_swap a b] at h2
  omega)
theorem dLe_total (a b : List UInt8) : dLe a b ∨ dLe b a := by
  rw [dLe_iff, dLe_iff, cmp_swap a b]; omega

theorem run_extBytes (w : World) : ∀ (l : List UInt8) (g o : Nat) (acc : ByteArray), (∀ j (h : j < l.length), w.cell? ⟨g, o + j, none⟩ = some (.int .u8 l[j].toNat)) →
    (Extern.Bytes.loadBytes ⟨g, o, none⟩ l.length acc).run Tryz.prog w = .ok ⟨acc.data ++ l.toArray⟩ w
  | [], g, o, acc, _ => by simp [Extern.Bytes.loadBytes]
  | x :: l, g, o, acc, h => by
    have h0 := h 0 (by simp)
    simp only [Nat.add_zero, List.getElem_cons_zero] at h0
    have ih := run_extBytes w l g (o + 1) (acc.push x) (fun j hj => by
      have := h (j + 1) (by simp; omega)
      rw [show o + (j + 1) = o + 1 + j by omega] at this
      simpa using this)
    have hx : ((x.toNat : Int).toNat).toUInt8 = x := by simp
    simp only [List.length_cons, Extern.Bytes.loadBytes, Sem.run_bind, run_load, h0, Result.andThen, hx, add_plain]
    rw [ih]
    congr 1
    apply ByteArray.ext
    simp [ByteArray.push]
theorem run_extOf {w : World} {A : Option Addr} {n c : Nat} {bs : List UInt8} (h : RdB w A n c bs) : (Extern.Bytes.bytesOf (.slice A n c)).run Tryz.prog w = .ok (strB bs) w := by
  have hl := h.len
  cases A with
  | none =>
    have hn : n = 0 := by
      rcases Nat.eq_zero_or_pos n with h0 | h0
      · exact h0
      · obtain ⟨g, o, e, _⟩ := h.lies h0; cases e
    subst hn
    obtain rfl : bs = [] := List.eq_nil_of_length_eq_zero hl
    rfl
  | some a =>
    rcases Nat.eq_zero_or_pos n with h0 | h0
    · subst h0
      obtain rfl : bs = [] := List.eq_nil_of_length_eq_zero hl
      simp [Extern.Bytes.bytesOf, Extern.Bytes.loadBytes, strB]
      rfl
    · obtain ⟨g, o, e, hc⟩ := h.lies h0
      obtain rfl := Option.some.inj e
      have := run_extBytes w bs g o .empty hc
      rw [hl] at this
      simp only [Extern.Bytes.bytesOf]
      rw [this]
      congr 1
      simp [strB, ByteArray.empty, ByteArray.emptyWithCapacity]
      rfl

set_option maxHeartbeats 1000000 in
set_option maxRecDepth 100000 in
/-- bytes.Compare. -/
theorem compare_calls (A B : Option Addr) (n c m d : Nat) (xs ys : List UInt8) (w : World) (hx : RdB w A n c xs) (hy : RdB w B m d ys) :
    Calls Tryz.prog 113 #[.slice A n c, .slice B m d] w fun e w' => e = .returned (.int .i64 (Lib.compareBytes xs ys)) ∧ w = w' := by
  have hr : (Extern.BytealgCompare.compare #[.slice A n c, .slice B m d]).run Tryz.prog w = .ok (.int .i64 (Lib.compareBytes xs ys)) w := by
    change Sem.run Tryz.prog (do pure (goInt (Extern.BytealgCompare.cmp (← Extern.Bytes.bytesOf (.slice A n c)) (← Extern.Bytes.bytesOf (.slice B m d))))) w = _
    simp only [Sem.run_bind, run_extOf hx, run_extOf hy, Sem.run_pure, Result.andThen]
    rw [Lib.cmp_eq]
    simp [strB, goInt]
  have HR := Kp.mk hr
  clear hr hx hy
  go_enter Tryz.func113, Tryz.ntmps113
  go_wp2
  rw [run_callFunc_extern Tryz.func114 (by kernel_rfl) (by kernel_rfl) (by kernel_rfl) (e := Extern.BytealgCompare.compare) (by kernel_rfl), HR.out]
  simp only [Result.andThen]
  rw [Oper.upon_value]
  go_wp2
  go_ret
  exact ⟨rfl, rfl⟩

end Go.Proofs.YtgjocdnpephcgaaGreatDoor
namespace Go.Proofs.YtgjocdnpephcgaaGreatDoor
open Go.RowKit

set_option maxHeartbeats 2000000 in
set_option maxRecDepth 100000 in
/-- recordDigest.Less. -/
theorem recLess_calls (x y : Itm) (w : World) (hx : RdB w x.A x.ds.length x.c x.ds) (hy : RdB w y.A y.ds.length y.c y.ds) :
    Calls Tryz.prog 112 #[.agg #[.slice x.A x.ds.length x.c, .string x.S, .int .u64 x.off], y.val] w fun e w' => e = .returned (.bool (dLt x.ds y.ds)) ∧ Below w.heap.size w w' := by
  have hta : ∀ W, (Instr.typeAssert (.iface 90 (.agg #[.slice y.A y.ds.length y.c, .string y.S, .int .u64 y.off])) 111 90 true).run Tryz.prog W = .ok (.tuple #[.agg #[.slice y.A y.ds.length y.c, .string y.S, .int .u64 y.off], .bool true]) W := fun _ => by kernel_rfl
  have HC := Kp.mk (fun W (h : Below w.heap.size w W) => compare_calls x.A y.A _ x.c _ y.c x.ds y.ds W (hx.below h) (hy.below h))
  clear hx hy
  unfold Itm.val
  go_enter Tryz.func112, Tryz.ntmps112
  go_wp2_with fail
  have hb := bel_alloc (bel_alloc (Below.refl w.heap.size w) (.cells #[.slice x.A x.ds.length x.c, .string x.S, .int .u64 x.off] 90)) (.cells #[.slice y.A y.ds.length y.c, .string y.S, .int .u64 y.off] 90)
  have HB := Kp.mk hb
  refine (HC.out _ hb).mono ?_
  rintro e w1 ⟨rfl, hw⟩
  obtain rfl := hw
  clear hb HC
  have hd : decide (Lib.compareBytes x.ds y.ds < 0) = dLt x.ds y.ds := rfl
  generalize Lib.compareBytes x.ds y.ds = z at *
  go_wp2
  go_ret
  exact ⟨by rw [← hd]; rfl, HB.out⟩

set_option maxHeartbeats 2000000 in
set_option maxRecDepth 100000 in
/-- llrb.less. -/
theorem less_calls (x y : Itm) (w : World) (hx : RdB w x.A x.ds.length x.c x.ds) (hy : RdB w y.A y.ds.length y.c y.ds) :
    Calls Tryz.prog 85 #[x.val, y.val] w fun e w' => e = .returned (.bool (dLt x.ds y.ds)) ∧ Below w.heap.size w w' := by
  have HL := Kp.mk (recLess_calls x y w hx hy)
  clear hx hy
  have hq1 := fun u u' W => eql_types (ti := 111) (T := 90) (T' := 146) u u' (by decide) Tryz.underlying111 W
  have hq2 := fun u u' W => eql_types (ti := 111) (T := 90) (T' := 147) u u' (by decide) Tryz.underlying111 W
  have hm : ∀ W, (method 269 90 (.agg #[.slice x.A x.ds.length x.c, .string x.S, .int .u64 x.off]) "Less").run Tryz.prog W = .ok (112, .agg #[.slice x.A x.ds.length x.c, .string x.S, .int .u64 x.off]) W := fun _ => by kernel_rfl
  unfold Itm.val at HL ⊢
  go_enter Tryz.func85, Tryz.ntmps85
  go_wp2_with fail
  refine HL.out.mono ?_
  rintro e w1 ⟨rfl, hb⟩
  have HB := Kp.mk hb
  clear hb HL hq1 hq2 hm
  go_wp2
  go_ret
  exact ⟨rfl, HB.out⟩

end Go.Proofs.YtgjocdnpephcgaaGreatDoor
