/- What the CBOR decoder reads of a plain header (numbers below 256, lengths below 256), and what is written as one. No program in sight. -/
import Derived.Test.YtkcpgcaccgahaaaGreatDoorCidA
namespace Go.Proofs.YtkcpgcaccgahaaaGreatDoor

/-- The number of a head whose low five bits are v, and what stands behind. -/
def cbArg (v : Nat) (r : List UInt8) : Option (Nat × List UInt8) :=
  if v < 24 then some (v, r) else if v = 24 then (match r with | [] => none | b :: r' => some (b.toNat, r')) else none
/-- What a step reads. -/
inductive Tk
  | map (n : Nat)
  | arr (n : Nat)
  | str (s : List UInt8)
  | byt (s : List UInt8)
  | uint (n : Nat)
/-- An item that is no tag and no byte string. -/
def cbVal (b : UInt8) (r : List UInt8) : Option (Tk × List UInt8) :=
  match cbArg (b.toNat % 32) r with
  | none => none
  | some (n, r') =>
    if b.toNat < 32 then some (.uint n, r')
    else if b.toNat < 96 then none
    else if b.toNat < 128 then (if n ≤ r'.length ∧ n < 32 ∧ 0 < n then some (.str (r'.take n), r'.drop n) else none)
    else if b.toNat < 160 then some (.arr n, r')
    else if b.toNat < 192 then some (.map n, r')
    else none
/-- A byte string. -/
def cbByt (b : UInt8) (r : List UInt8) : Option (Tk × List UInt8) :=
  match cbArg (b.toNat % 32) r with
  | none => none
  | some (n, r') => if (64 ≤ b.toNat ∧ b.toNat < 96) ∧ 0 < n ∧ n ≤ r'.length then some (.byt (r'.take n), r'.drop n) else none
/-- An item: a byte string with a tag ahead of it, or another one without. -/
def cbItem : List UInt8 → Option (Tk × List UInt8)
  | [] => none
  | b :: r =>
    if 192 ≤ b.toNat ∧ b.toNat < 224 then
      (match cbArg (b.toNat % 32) r with
      | none => none
      | some (_, []) => none
      | some (_, b' :: r') => cbByt b' r')
    else cbVal b r

/-- Links of an array. -/
def decLinks : Nat → List UInt8 → Option (List (List UInt8) × List UInt8)
  | 0, r => some ([], r)
  | n + 1, r =>
    match cbItem r with
    | some (.byt (z :: s), r') => if z ≠ 0 then none else
      (match cdRead s with
      | none => none
      | some (_, _, _, _, k) => if k ≠ s.length then none else
        match decLinks n r' with
        | none => none
        | some (l, r2) => some (s :: l, r2))
    | _ => none

def txVersion : List UInt8 := [118, 101, 114, 115, 105, 111, 110]
def txRoots : List UInt8 := [114, 111, 111, 116, 115]
/-- The keys of the map. -/
def decMap : Nat → List UInt8 → List (List UInt8) → Nat → Option ((List (List UInt8) × Nat) × List UInt8)
  | 0, r, roots, v => some ((roots, v), r)
  | n + 1, r, roots, v =>
    match cbItem r with
    | some (.str s, r1) =>
      if s = txVersion then
        (match cbItem r1 with
        | some (.uint x, r2) => decMap n r2 roots x
        | _ => none)
      else if s = txRoots then
        (match cbItem r1 with
        | some (.arr m, r2) =>
          (match decLinks m r2 with
          | none => none
          | some (l, r3) => decMap n r3 l v)
        | _ => none)
      else none
    | _ => none
/-- A header. -/
def decHead (r : List UInt8) : Option ((List (List UInt8) × Nat) × List UInt8) :=
  match cbItem r with
  | some (.map n, r1) => decMap n r1 [] 0
  | _ => none

/-- The pragma's map. -/
theorem dec_pragma : decHead [161, 103, 118, 101, 114, 115, 105, 111, 110, 2] = some (([], 2), []) := by rfl

theorem cbArg_lt {v : Nat} {r r' : List UInt8} {n : Nat} (h : cbArg v r = some (n, r')) : n < 256 ∧ r'.length ≤ r.length := by
  unfold cbArg at h
  split at h
  · simp only [Option.some.injEq, Prod.mk.injEq] at h; obtain ⟨rfl, rfl⟩ := h; exact ⟨by omega, Nat.le_refl _⟩
  split at h
  · cases r with
    | nil => cases h
    | cons b r =>
      simp only [Option.some.injEq, Prod.mk.injEq] at h
      obtain ⟨rfl, rfl⟩ := h
      exact ⟨b.toNat_lt, by simp⟩
  · cases h

/-- The head of an item: its major type, a number below 256 in the shortest way. -/
def cbHead (m n : Nat) : List UInt8 := if n < 24 then [UInt8.ofNat (m * 32 + n)] else [UInt8.ofNat (m * 32 + 24), UInt8.ofNat n]
theorem u8_of (x : Nat) (h : x < 256) : (UInt8.ofNat x).toNat = x := by simp; omega
theorem cbHead_some (m n : Nat) (hm : m < 7) (hn : n < 256) (r : List UInt8) : ∃ b v t, cbHead m n ++ r = b :: (t ++ r) ∧ b.toNat = m * 32 + v ∧ v ≤ 24 ∧ cbArg (b.toNat % 32) (t ++ r) = some (n, r) := by
  unfold cbHead
  split
  · rename_i h
    have hb := u8_of (m * 32 + n) (by omega)
    exact ⟨_, n, [], rfl, hb, by omega, by rw [hb, show (m * 32 + n) % 32 = n by omega]; unfold cbArg; rw [if_pos h]; rfl⟩
  · rename_i h
    have hb := u8_of (m * 32 + 24) (by omega)
    refine ⟨_, 24, _, rfl, hb, by omega, ?_⟩
    rw [hb, show (m * 32 + 24) % 32 = 24 by omega]
    unfold cbArg
    rw [if_neg (by omega), if_pos rfl]
    simp only [List.cons_append, List.nil_append]
    rw [u8_of n hn]
theorem item_uint (n : Nat) (hn : n < 256) (r : List UInt8) : cbItem (cbHead 0 n ++ r) = some (.uint n, r) := by
  obtain ⟨b, v, t, h, hb, hv, ha⟩ := cbHead_some 0 n (by omega) hn r
  rw [h, cbItem, if_neg (by omega), cbVal, ha]; simp only; rw [if_pos (by omega)]
theorem item_map (n : Nat) (hn : n < 256) (r : List UInt8) : cbItem (cbHead 5 n ++ r) = some (.map n, r) := by
  obtain ⟨b, v, t, h, hb, hv, ha⟩ := cbHead_some 5 n (by omega) hn r
  rw [h, cbItem, if_neg (by omega), cbVal, ha]; simp only
  rw [if_neg (by omega), if_neg (by omega), if_neg (by omega), if_neg (by omega), if_pos (by omega)]
theorem item_arr (n : Nat) (hn : n < 256) (r : List UInt8) : cbItem (cbHead 4 n ++ r) = some (.arr n, r) := by
  obtain ⟨b, v, t, h, hb, hv, ha⟩ := cbHead_some 4 n (by omega) hn r
  rw [h, cbItem, if_neg (by omega), cbVal, ha]; simp only
  rw [if_neg (by omega), if_neg (by omega), if_neg (by omega), if_pos (by omega)]
theorem take_app (s r : List UInt8) : (s ++ r).take s.length = s ∧ (s ++ r).drop s.length = r := by
  refine ⟨by rw [List.take_append_of_le_length (Nat.le_refl _), List.take_of_length_le (Nat.le_refl _)], by rw [List.drop_append_of_le_length (Nat.le_refl _), List.drop_of_length_le (Nat.le_refl _), List.nil_append]⟩
theorem item_str (s r : List UInt8) (hs : s.length < 32) (h0 : 0 < s.length) : cbItem (cbHead 3 s.length ++ (s ++ r)) = some (.str s, r) := by
  obtain ⟨b, v, t, h, hb, hv, ha⟩ := cbHead_some 3 s.length (by omega) (by omega) (s ++ r)
  rw [h, cbItem, if_neg (by omega), cbVal, ha]; simp only
  rw [if_neg (by omega), if_neg (by omega), if_pos (by omega), if_pos ⟨by rw [List.length_append]; omega, hs, h0⟩, (take_app s r).1, (take_app s r).2]
theorem val_byt (s r : List UInt8) (hs : s.length < 256) (h0 : 0 < s.length) : ∃ b t, cbHead 2 s.length ++ (s ++ r) = b :: t ∧ cbByt b t = some (.byt s, r) := by
  obtain ⟨b, v, t, h, hb, hv, ha⟩ := cbHead_some 2 s.length (by omega) hs (s ++ r)
  refine ⟨b, _, h, ?_⟩
  rw [cbByt, ha]; simp only
  rw [if_pos ⟨by omega, h0, by rw [List.length_append]; omega⟩, (take_app s r).1, (take_app s r).2]

/-- A link. -/
def hdLink (c : List UInt8) : List UInt8 := cbHead 6 42 ++ (cbHead 2 (c.length + 1) ++ (0 :: c))
theorem item_link (c r : List UInt8) (hc : c.length < 255) : cbItem (hdLink c ++ r) = some (.byt (0 :: c), r) := by
  obtain ⟨b, t, h, hv⟩ := val_byt (0 :: c) r (by rw [List.length_cons]; omega) (by simp)
  obtain ⟨b', v, t', h', hb', hv', ha⟩ := cbHead_some 6 42 (by omega) (by omega) (b :: t)
  have he : hdLink c ++ r = cbHead 6 42 ++ b :: t := by
    rw [← h, hdLink, List.length_cons]; simp [List.append_assoc]
  rw [he, h', cbItem, if_pos (by omega), ha]
  exact hv
def hdLinks (l : List (List UInt8)) : List UInt8 := l.flatMap hdLink
/-- An identifier's bytes. -/
def isCid (c : List UInt8) : Prop := ∃ a b d e, cdRead c = some (a, b, d, e, c.length)
theorem dec_links : ∀ (l : List (List UInt8)) (r : List UInt8), (∀ c ∈ l, isCid c ∧ c.length < 255) → decLinks l.length (hdLinks l ++ r) = some (l, r)
  | [], r, _ => rfl
  | c :: l, r, h => by
    obtain ⟨⟨v, x, y, d, hcd⟩, hc⟩ := h c (by simp)
    have he : hdLinks (c :: l) ++ r = hdLink c ++ (hdLinks l ++ r) := by simp [hdLinks, List.append_assoc]
    rw [he, List.length_cons, decLinks, item_link c _ hc]
    simp only
    rw [if_neg (by simp), hcd]
    simp only
    rw [if_neg (by simp), dec_links l r (fun c hc => h c (by simp [hc]))]
/-- The bytes of a header, without their length. -/
def hdEnc (l : List (List UInt8)) (v : Nat) : List UInt8 := cbHead 5 2 ++ (cbHead 3 5 ++ (txRoots ++ (cbHead 4 l.length ++ (hdLinks l ++ (cbHead 3 7 ++ (txVersion ++ cbHead 0 v))))))
/-- A header that is written is read. -/
theorem dec_enc (l : List (List UInt8)) (v : Nat) (hv : v < 256) (hl : l.length < 256) (h : ∀ c ∈ l, isCid c ∧ c.length < 255) : decHead (hdEnc l v) = some ((l, v), []) := by
  have h5 := item_str txRoots (cbHead 4 l.length ++ (hdLinks l ++ (cbHead 3 7 ++ (txVersion ++ cbHead 0 v)))) (by decide) (by decide)
  have h7 := item_str txVersion (cbHead 0 v) (by decide) (by decide)
  have hu := item_uint v hv []
  rw [List.append_nil] at hu
  rw [show txRoots.length = 5 from rfl] at h5
  rw [show txVersion.length = 7 from rfl] at h7
  unfold decHead hdEnc
  rw [item_map 2 (by omega)]
  simp only
  rw [decMap, h5]
  simp only
  rw [if_neg (by decide), if_pos trivial, item_arr l.length hl]
  simp only
  rw [dec_links l _ h]
  simp only
  rw [decMap, h7]
  simp only
  rw [if_pos trivial, hu]
  rfl

theorem cbVal_str {b : UInt8} {r r' s : List UInt8} (h : cbVal b r = some (.str s, r')) : ∃ n r1, (96 ≤ b.toNat ∧ b.toNat < 128) ∧ cbArg (b.toNat % 32) r = some (n, r1) ∧ (0 < n ∧ n < 32 ∧ n ≤ r1.length) ∧ s = r1.take n ∧ r' = r1.drop n := by
  unfold cbVal at h
  split at h
  · cases h
  · rename_i n r1 ha
    split at h
    · cases h
    split at h
    · cases h
    split at h
    · split at h
      · rename_i h1 h2 h3 h4
        simp only [Option.some.injEq, Prod.mk.injEq, Tk.str.injEq] at h
        exact ⟨n, r1, ⟨by omega, h3⟩, ha, ⟨h4.2.2, h4.2.1, h4.1⟩, h.1.symm, h.2.symm⟩
      · cases h
    split at h
    · cases h
    split at h
    · cases h
    · cases h
theorem cbVal_uint {b : UInt8} {r r' : List UInt8} {n : Nat} (h : cbVal b r = some (.uint n, r')) : b.toNat < 32 ∧ cbArg (b.toNat % 32) r = some (n, r') := by
  unfold cbVal at h
  split at h
  · cases h
  · rename_i m r1 ha
    split at h
    · rename_i h1
      simp only [Option.some.injEq, Prod.mk.injEq, Tk.uint.injEq] at h
      exact ⟨h1, by rw [ha, h.1, h.2]⟩
    split at h
    · cases h
    split at h
    · split at h <;> cases h
    split at h
    · cases h
    split at h
    · cases h
    · cases h
theorem cbVal_arr {b : UInt8} {r r' : List UInt8} {n : Nat} (h : cbVal b r = some (.arr n, r')) : (128 ≤ b.toNat ∧ b.toNat < 160) ∧ cbArg (b.toNat % 32) r = some (n, r') := by
  unfold cbVal at h
  split at h
  · cases h
  · rename_i m r1 ha
    split at h
    · cases h
    split at h
    · cases h
    split at h
    · split at h <;> cases h
    split at h
    · rename_i h1 h2 h3 h4
      simp only [Option.some.injEq, Prod.mk.injEq, Tk.arr.injEq] at h
      exact ⟨⟨by omega, h4⟩, by rw [ha, h.1, h.2]⟩
    split at h
    · cases h
    · cases h
theorem cbVal_map {b : UInt8} {r r' : List UInt8} {n : Nat} (h : cbVal b r = some (.map n, r')) : (160 ≤ b.toNat ∧ b.toNat < 192) ∧ cbArg (b.toNat % 32) r = some (n, r') := by
  unfold cbVal at h
  split at h
  · cases h
  · rename_i m r1 ha
    split at h
    · cases h
    split at h
    · cases h
    split at h
    · split at h <;> cases h
    split at h
    · cases h
    split at h
    · rename_i h1 h2 h3 h4 h5
      simp only [Option.some.injEq, Prod.mk.injEq, Tk.map.injEq] at h
      exact ⟨⟨by omega, h5⟩, by rw [ha, h.1, h.2]⟩
    · cases h
theorem cbByt_byt {b : UInt8} {r r' s : List UInt8} {k : Tk} (h : cbByt b r = some (k, r')) (hk : k = .byt s) : ∃ n r1, (64 ≤ b.toNat ∧ b.toNat < 96) ∧ cbArg (b.toNat % 32) r = some (n, r1) ∧ (0 < n ∧ n ≤ r1.length) ∧ s = r1.take n ∧ r' = r1.drop n := by
  subst hk
  unfold cbByt at h
  split at h
  · cases h
  · rename_i n r1 ha
    split at h
    · rename_i h1
      simp only [Option.some.injEq, Prod.mk.injEq, Tk.byt.injEq] at h
      exact ⟨n, r1, h1.1, ha, h1.2, h.1.symm, h.2.symm⟩
    · cases h
/-- What an item is, by its first byte. -/
theorem cbItem_cases {r r' : List UInt8} {k : Tk} (h : cbItem r = some (k, r')) : ∃ b r0, r = b :: r0 ∧ ((∃ s x b' r1, k = .byt s ∧ (192 ≤ b.toNat ∧ b.toNat < 224) ∧ cbArg (b.toNat % 32) r0 = some (x, b' :: r1) ∧ cbByt b' r1 = some (k, r')) ∨ ((∀ s, k ≠ .byt s) ∧ cbVal b r0 = some (k, r'))) := by
  cases r with
  | nil => cases h
  | cons b r0 =>
    refine ⟨b, r0, rfl, ?_⟩
    rw [cbItem] at h
    split at h
    · rename_i hr
      split at h
      · cases h
      · cases h
      · rename_i x b' r1 ha
        refine .inl ?_
        have h2 := h
        unfold cbByt at h2
        split at h2
        · cases h2
        split at h2
        · simp only [Option.some.injEq, Prod.mk.injEq] at h2
          exact ⟨_, x, b', r1, h2.1.symm, hr, ha, h⟩
        · cases h2
    · refine .inr ⟨fun s e => ?_, h⟩
      subst e
      unfold cbVal at h
      repeat' split at h
      all_goals cases h

end Go.Proofs.YtkcpgcaccgahaaaGreatDoor
