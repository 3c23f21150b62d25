/- The walks of bytes.Reader's Len, impl.kind and impl.LdRead. -/
import Derived.Test.YtgjocdnpephcgaaGreatDoorLdA
import Derived.Test.YtgjocdnpephcgaaGreatDoorGrowA
namespace Go.Proofs.YtgjocdnpephcgaaGreatDoor
open Go.RowKit































/-- Which number impl.kind gives an error. -/
def KindIs (ve v : Value) (kd : Nat) (w : World) : Prop := (v = .nilIface ∧ kd = 0) ∨ (v = ve ∧ kd = 1) ∨ (NotEof v w ∧ kd = 2)
theorem KindIs.below {ve v : Value} {kd : Nat} {w w1 : World} (h : KindIs ve v kd w) (hb : Below w.heap.size w w1) : KindIs ve v kd w1 := by
  rcases h with h | h | ⟨h, h2⟩
  · exact .inl h
  · exact .inr (.inl h)
  · exact .inr (.inr ⟨h.below hb, h2⟩)




































/-- What impl.LdRead hands back. -/
def LiEnd (r : LongR) (e : Ending) : Prop :=
  match r with
  | .ended _ => ∃ a b, e = .returned (.tuple #[.string a, .int .i64 b, .int .u8 1])
  | .left => False
  | .failed => ∃ a b, e = .returned (.tuple #[.string a, .int .i64 b, .int .u8 2])
  | .read d N => e = .returned (.tuple #[.string (strB d), .int .i64 N, .int .u8 0])

/-- What the last line's operations leave. -/
def liR (A : Option Addr) (m cap : Nat) (S s : ByteArray) (g L : Nat) (v : Value) (kd : Nat) (j : Nat) (u : Value) (_ : World) : Prop :=
  match j with
  | 0 => u = .slice A m cap
  | 1 => u = .string S
  | 2 => u = .string s
  | 3 => u = .int .i64 s.size
  | 4 => u = .pointer (some ⟨g, 0, none⟩)
  | 5 => u = .int .i64 L
  | 6 => u = .int .i64 ((s.size : Int) - L)
  | 7 => u = v
  | 8 => u = .int .u8 kd
  | 9 => u = .string S
  | 10 => u = .int .i64 ((s.size : Int) - L)
  | 11 => u = .int .u8 kd
  | _ => True

/-- What the section, the reader's place and the kind have to do with each other. -/
def LiRel (r : LongR) (i : Nat) (d : List UInt8) (j kd : Nat) : Prop :=
  match r with
  | .ended _ => kd = 1
  | .left => False
  | .failed => kd = 2
  | .read d' N => d' = d ∧ j = i + N ∧ kd = 0
theorem long_le {bs : List UInt8} {ze : Bool} {most : Nat} {d : List UInt8} {N : Nat} (h : longRead bs ze most = .read d N) : N ≤ bs.length := by
  unfold longRead at h
  split at h
  · cases h
  · split at h
    · cases h
    · rename_i x k h1
      have hk := (uvRead_some h1).2.1
      split at h
      · cases h
      · split at h
        · cases h
        · split at h
          · cases h
          · split at h
            · cases h
            · simp only [LongR.read.injEq] at h
              omega
theorem li_of_rel {bs : List UInt8} {ze : Bool} {most j kd : Nat} {d : List UInt8} (h : LiRel (longRead bs ze most) 0 d j kd) : LiEnd (longRead bs ze most) (.returned (.tuple #[.string (strB d), .int .i64 ((bs.length : Int) - (bs.length - j : Nat)), .int .u8 kd])) := by
  cases hr : longRead bs ze most with
  | ended k => rw [hr] at h; obtain rfl : kd = 1 := h; exact ⟨_, _, rfl⟩
  | left => rw [hr] at h; exact h.elim
  | failed => rw [hr] at h; obtain rfl : kd = 2 := h; exact ⟨_, _, rfl⟩
  | read d' N =>
    have hl := long_le hr
    rw [hr] at h
    obtain ⟨rfl, rfl, rfl⟩ := h
    have he : ((bs.length : Int) - (bs.length - (0 + N) : Nat)) = (N : Int) := by omega
    rw [he]; rfl





















































































































































end Go.Proofs.YtgjocdnpephcgaaGreatDoor
