/- Some texts in one: LdMath, LdUtil, LdRd. -/
import Derived.Test.YtkcpgcaccgahaaaGreatDoorMathA
import Derived.Test.YtkcpgcaccgahaaaGreatDoorSrcA
namespace Go.Proofs.YtkcpgcaccgahaaaGreatDoor

/-- The ways in which a section is read. -/
inductive LongR
  | ended (n : Nat)
  | left
  | failed
  | read (d : List UInt8) (n : Nat)

/-- A section: a length as a varint, of at most so many bytes, and as many bytes. -/
def longRead (bs : List UInt8) (ze : Bool) (most : Nat) : LongR :=
  if bs = [] then .ended 0 else
  match uvRead bs with
  | none => .failed
  | some (x, k) => if most < x then .failed else if ze = true ∧ x = 0 then .ended k else if 0 < x ∧ k = bs.length then .left else if bs.length - k < x then .failed else .read ((bs.drop k).take x) (k + x)

theorem long_nil (ze : Bool) (most : Nat) : longRead [] ze most = .ended 0 := rfl
theorem long_bad {bs : List UInt8} {ze : Bool} {most : Nat} (h : bs ≠ []) (h1 : uvRead bs = none) : longRead bs ze most = .failed := by
  unfold longRead; rw [if_neg h, h1]
theorem long_much {bs : List UInt8} {ze : Bool} {most x k : Nat} (h : bs ≠ []) (h1 : uvRead bs = some (x, k)) (h2 : most < x) : longRead bs ze most = .failed := by
  unfold longRead; rw [if_neg h, h1]; simp only; rw [if_pos h2]
theorem long_zero {bs : List UInt8} {most k : Nat} (h : bs ≠ []) (h1 : uvRead bs = some (0, k)) : longRead bs true most = .ended k := by
  unfold longRead; rw [if_neg h, h1]; simp
theorem long_left {bs : List UInt8} {ze : Bool} {most x k : Nat} (h : bs ≠ []) (h1 : uvRead bs = some (x, k)) (h2 : ¬ most < x) (h3 : ¬ (ze = true ∧ x = 0)) (h4 : 0 < x ∧ k = bs.length) : longRead bs ze most = .left := by
  unfold longRead; rw [if_neg h, h1]; simp only; rw [if_neg h2, if_neg h3, if_pos h4]
theorem long_less {bs : List UInt8} {ze : Bool} {most x k : Nat} (h : bs ≠ []) (h1 : uvRead bs = some (x, k)) (h2 : ¬ most < x) (h3 : ¬ (ze = true ∧ x = 0)) (h4 : ¬ (0 < x ∧ k = bs.length)) (h5 : bs.length - k < x) : longRead bs ze most = .failed := by
  unfold longRead; rw [if_neg h, h1]; simp only; rw [if_neg h2, if_neg h3, if_neg h4, if_pos h5]
theorem long_read {bs : List UInt8} {ze : Bool} {most x k : Nat} (h : bs ≠ []) (h1 : uvRead bs = some (x, k)) (h2 : ¬ most < x) (h3 : ¬ (ze = true ∧ x = 0)) (h4 : ¬ (0 < x ∧ k = bs.length)) (h5 : ¬ bs.length - k < x) : longRead bs ze most = .read ((bs.drop k).take x) (k + x) := by
  unfold longRead; rw [if_neg h, h1]; simp only; rw [if_neg h2, if_neg h3, if_neg h4, if_neg h5]
theorem uv_ne {bs : List UInt8} {x k : Nat} (h1 : uvRead bs = some (x, k)) : bs ≠ [] := by rintro rfl; cases h1
end Go.Proofs.YtkcpgcaccgahaaaGreatDoor
namespace Go.Proofs.YtkcpgcaccgahaaaGreatDoor
open Go.RowKit

set_option maxHeartbeats 2000000 in
set_option maxRecDepth 100000 in
/-- io.ReadFull, where as many bytes are there. -/
theorem fullAllG_calls (g ga gd n c o m cm i : Nat) (q : Int) (bs : List UInt8) (cs : Array Value) (w : World) (hg : RdrAt w g ga n c i q) (hr : RdB w (some ⟨ga, 0, none⟩) n c bs) (hag : ga < g) (hgd : g < gd)
    (hd : w.heap[gd]? = some (.cells cs 5 (0, 0))) (hos : o + m ≤ cs.size) (hmc : m ≤ cm) (hm : 0 < m) (hmi : i + m ≤ n) (hn : n ≤ 4611686018427387904) :
    Calls Tryz.prog 100 #[.iface 104 (.pointer (some ⟨g, 0, none⟩)), .slice (some ⟨gd, o, none⟩) m cm] w fun e w' => (e = .returned (.tuple #[.int .i64 m, .nilIface]) ∧ RdrAt w' g ga n c (i + m) (-1) ∧ w'.heap[gd]? = some (.cells (putLs cs o (Lib.byteCells ((bs.drop i).take m))) 5 (0, 0))) ∧ Ex (fun k => k = g ∨ k = gd) w w' := by
  have H := Kp.mk (readAll_calls g ga gd n c o m cm i q bs cs w hg hr hag hgd hd hos hmc hm hmi (by omega) hn)
  clear hg hr hag hgd hd hm hmi hn hos hmc
  go_enter Tryz.func100, Tryz.ntmps100
  go_wp2_with fail
  refine H.out.mono ?_
  rintro e w1 ⟨⟨rfl, h1, h2⟩, h3⟩
  have HK := Kp.mk (And.intro h1 (And.intro h2 h3))
  clear h1 h2 h3
  go_wp2_with fail
  go_ret2
  exact ⟨⟨rfl, HK.out.1, HK.out.2.1⟩, HK.out.2.2⟩
theorem fullAll_calls (g ga gd n c m i : Nat) (q : Int) (bs : List UInt8) (w : World) (hg : RdrAt w g ga n c i q) (hr : RdB w (some ⟨ga, 0, none⟩) n c bs) (hag : ga < g) (hgd : g < gd)
    (hd : w.heap[gd]? = some (.cells (zeros m) 5 (0, 0))) (hm : 0 < m) (hmi : i + m ≤ n) (hn : n ≤ 4611686018427387904) :
    Calls Tryz.prog 100 #[.iface 104 (.pointer (some ⟨g, 0, none⟩)), .slice (some ⟨gd, 0, none⟩) m m] w fun e w' => (e = .returned (.tuple #[.int .i64 m, .nilIface]) ∧ RdrAt w' g ga n c (i + m) (-1) ∧ RdB w' (some ⟨gd, 0, none⟩) m m ((bs.drop i).take m)) ∧ Ex (fun k => k = g ∨ k = gd) w w' := by
  refine (fullAllG_calls g ga gd n c 0 m m i q bs (zeros m) w hg hr hag hgd hd (by rw [zeros_size]; omega) (Nat.le_refl _) hm hmi hn).mono ?_
  rintro e w' ⟨⟨rfl, h1, h2⟩, h3⟩
  have hl : ((bs.drop i).take m).length = m := by rw [List.length_take, List.length_drop, hr.len]; omega
  have h4 := rd_put (cm := m) h2 (by rw [zeros_size, hl]; omega) (by omega) (by omega)
  rw [hl] at h4
  exact ⟨⟨rfl, h1, h4⟩, h3⟩

/-- A bytes.Reader as a reader of bytes. -/
theorem byteRdr_of (g ga n c i : Nat) (bs : List UInt8) (ve vu vo vn : Value) (w : World) (hr : RdB w (some ⟨ga, 0, none⟩) n c bs) (hag : ga < g) (hn : n ≤ 4611686018427387904) (hlt : 0 < g) (he : ∀ w', Ex (· = g) w w' → RdErrs ve vu vo vn w') :
    ByteRdr 104 (.pointer (some ⟨g, 0, none⟩)) 226 (bs.drop i) ve vu vo vn (fun k w' => (∃ q, RdrAt w' g ga n c (i + k) q) ∧ Ex (· = g) w w') := by
  have hl := hr.len
  refine ⟨fun _ => by kernel_rfl, enters_of Tryz.func226 (by kernel_rfl) rfl, ?_, ?_, fun k w' h => he w' h.2, fun k w' n h => ⟨h.1, h.2.drewN n⟩⟩
  · rintro k w' b _ ⟨⟨q, h1⟩, h2⟩ hb
    rw [List.getElem?_drop] at hb
    refine (rdByte_calls g ga n c (i + k) q bs w' h1 (hr.ex h2 (Nat.ne_of_lt hag)) hag b hb hn).mono ?_
    rintro e w2 ⟨rfl, h3, h4⟩
    exact ⟨rfl, ⟨_, h3⟩, h2.trans h4⟩
  · rintro k w' ⟨⟨q, h1⟩, h2⟩ hb
    rw [List.getElem?_drop, List.getElem?_eq_none_iff] at hb
    refine (rdByteEnd_calls g ga n c (i + k) q ve w' h1 (by omega) (he w' h2).eof hlt).mono ?_
    rintro e w2 ⟨rfl, h3, h4⟩
    exact ⟨⟨0, rfl⟩, ⟨_, h3⟩, h2.trans h4⟩

set_option maxHeartbeats 800000 in
set_option maxRecDepth 100000 in
theorem toByteRdr_calls (p : Value) (w : World) :
    Calls Tryz.prog 120 #[.iface 104 p] w fun e w' => e = .returned (.iface 104 p) ∧ w = w' := by
  have hta : ∀ W, (Instr.typeAssert (.iface 104 p) 95 224 true).run Tryz.prog W = .ok (.tuple #[.iface 104 p, .bool true]) W := fun _ => by kernel_rfl
  go_enter Tryz.func120, Tryz.ntmps120
  go_wp2
  go_ret
  exact ⟨rfl, rfl⟩

/-- What util.LdReadSize hands back of what stands behind place i. -/
def LsEnd (g ga n c i : Nat) (rest : List UInt8) (ze : Bool) (most : Nat) (ve : Value) (w : World) (e : Ending) (w' : World) : Prop :=
  (∃ j q, RdrAt w' g ga n c j q) ∧ Ex (· = g) w w' ∧
  match uvRead rest with
  | some (x, k) => if x = 0 ∧ ze = true then e = .returned (.tuple #[.int .u64 0, ve]) ∧ (∃ q, RdrAt w' g ga n c (i + k) q)
    else if most < x then ∃ v, e = .returned (.tuple #[.int .u64 0, v]) ∧ NotEof v w'
    else e = .returned (.tuple #[.int .u64 x, .nilIface]) ∧ ∃ q, RdrAt w' g ga n c (i + k) q
  | none => ∃ v, e = .returned (.tuple #[.int .u64 0, v]) ∧ ((rest = [] ∧ v = ve) ∨ (rest ≠ [] ∧ NotEof v w'))

set_option maxHeartbeats 4000000 in
set_option maxRecDepth 100000 in
/-- util.LdReadSize. -/
theorem ldSize_calls (g ga n c i : Nat) (q : Int) (bs : List UInt8) (ve vu vo vn : Value) (ze : Bool) (most : Nat) (w : World) (hg : RdrAt w g ga n c i q) (hr : RdB w (some ⟨ga, 0, none⟩) n c bs) (hag : ga < g) (hn : n ≤ 4611686018427387904) (hlt : 0 < g) (he : ∀ w', Ex (· = g) w w' → RdErrs ve vu vo vn w')
    (hl : ∀ w', Ex (· = g) w w' → ∃ v, w'.cell? ⟨1, 0, none⟩ = some v ∧ NotEof v w') :
    Calls Tryz.prog 99 #[.iface 104 (.pointer (some ⟨g, 0, none⟩)), .bool ze, .int .u64 most] w fun e w' => LsEnd g ga n c i (bs.drop i) ze most ve w e w' := by
  have H := byteRdr_of g ga n c i bs ve vu vo vn w hr hag hn hlt he
  have HU := Kp.mk (readUv_calls _ _ _ _ _ _ _ _ _ H w ⟨⟨q, hg⟩, Ex.refl _ _⟩)
  have HT := Kp.mk (fun w => toByteRdr_calls (.pointer (some ⟨g, 0, none⟩)) w)
  have HE := Kp.mk he
  have HL := Kp.mk hl
  have he0 := he w (Ex.refl _ _)
  obtain ⟨Te, ue, rfl⟩ := he0.eofE.iface
  clear H hg hr hag hlt he hl he0
  go_enter Tryz.func99, Tryz.ntmps99
  go_wp2_with fail
  refine (HT.out _).mono ?_
  rintro e w' ⟨rfl, rfl⟩
  go_wp2_with fail
  refine HU.out.mono ?_
  rintro e w1 hu
  unfold RuEnd at hu
  cases hrd : uvRead (bs.drop i) with
  | none =>
    rw [hrd] at hu
    obtain ⟨k, v, ⟨⟨q1, hs⟩, hb⟩, rfl, hv⟩ := hu
    have HD : Kp (LsEnd g ga n c i (bs.drop i) ze most (.iface Te ue) w (.returned (.tuple #[.int .u64 0, v])) w1) := ⟨⟨_, _, hs⟩, hb, by rw [hrd]; exact ⟨v, rfl, hv⟩⟩
    obtain ⟨T, u, rfl⟩ : ∃ T u, v = .iface T u := by
      rcases hv with ⟨_, rfl⟩ | ⟨_, t, _, h⟩
      · exact ⟨_, _, rfl⟩
      · exact h.iface
    clear hrd hv hs hb HU HT
    go_wp2_with fail
    go_ret2
    exact HD.out
  | some p =>
    obtain ⟨x, k⟩ := p
    rw [hrd] at hu
    obtain ⟨rfl, ⟨q1, hs⟩, hb⟩ := hu
    have hx := (uvRead_some hrd).2.2.2
    have ce := (HE.out w1 hb).eof
    by_cases h0 : x = 0 ∧ ze = true
    · obtain ⟨rfl, rfl⟩ := h0
      have HD := Kp.mk (And.intro hrd (And.intro hs hb))
      clear hrd hs hb hx
      go_wp2_with fail
      go_quiet (fail)
      go_wp2
      go_ret2
      exact ⟨⟨_, _, HD.out.2.1⟩, HD.out.2.2.drewN _, by rw [HD.out.1]; simp only; rw [if_pos (by simp)]; exact ⟨rfl, _, HD.out.2.1⟩⟩
    · by_cases hm : most < x
      · obtain ⟨v, hv, hne⟩ := HL.out w1 hb
        have HD := Kp.mk (And.intro hrd (And.intro hs (And.intro hb (And.intro h0 hne))))
        have hx0 : ((x : Int) == 0) = false := beq_eq_false_iff_ne.2 (by omega)
        clear hrd hs hb h0 hne hx
        go_wp2_with fail
        go_quiet (fail)
        go_wp2
        go_ret2
        exact ⟨⟨_, _, HD.out.2.1⟩, HD.out.2.2.1.drewN _, by rw [HD.out.1]; simp only; rw [if_neg HD.out.2.2.2.1, if_pos hm]; exact ⟨_, rfl, HD.out.2.2.2.2.below (below_self_drewN _ _)⟩⟩
      · have HD := Kp.mk (And.intro hrd (And.intro hs (And.intro hb h0)))
        by_cases hx0 : x = 0
        · subst hx0
          obtain rfl : ze = false := by cases ze; rfl; exact absurd ⟨rfl, rfl⟩ h0
          clear hrd hs hb h0 hx
          go_wp2_with fail
          go_ret2
          exact ⟨⟨_, _, HD.out.2.1⟩, HD.out.2.2.1, by rw [HD.out.1]; simp only; rw [if_neg HD.out.2.2.2, if_neg hm]; exact ⟨rfl, _, HD.out.2.1⟩⟩
        · have hx1 : ((x : Int) == 0) = false := beq_eq_false_iff_ne.2 (by omega)
          clear hrd hs hb h0 hx hx0
          go_wp2_with fail
          go_ret2
          exact ⟨⟨_, _, HD.out.2.1⟩, HD.out.2.2.1, by rw [HD.out.1]; simp only; rw [if_neg HD.out.2.2.2, if_neg hm]; exact ⟨rfl, _, HD.out.2.1⟩⟩

end Go.Proofs.YtkcpgcaccgahaaaGreatDoor
namespace Go.Proofs.YtkcpgcaccgahaaaGreatDoor
open Go.RowKit

theorem mk_bytes_u (t : TypeId) (ht : Tryz.prog.underlying t = some (.slice 5)) (n : Nat) (hn : n ≤ 140737488355328) (W : World) :
    (Instr.makeSlice t (.int .u64 (n : Int)) (.int .u64 (n : Int))).run Tryz.prog W = .ok (.slice (some ⟨W.heap.size, 0, none⟩) n n) (W.alloc (.cells (zeros n) 5)) := by
  obtain ⟨i, hi, hz, hs, hb⟩ := info_parts info_u8
  have h := run_make (P := Tryz.prog) W t 5 i _ ht hi hz .u64 .u64 (n : Int) (n : Int) (by omega) (by omega) (by rw [hb]; omega) (by omega)
  simp only [Int.toNat_natCast, hs, Nat.mul_one] at h
  have hm : madeCells (Value.cells (.int .u8 0)) n = zeros n := by
    apply Array.ext
    · rw [size_madeCells, zeros_size]
    · intro j h1 h2
      simp [madeCells, zeros, Value.cells, Nat.mod_one]
  rw [hm] at h
  exact h

theorem rd_of_zero {w : World} {g : Nat} (_h : w.heap[g]? = some (.cells (zeros 0) 5 (0, 0))) {xs : List UInt8} : RdB w (some ⟨g, 0, none⟩) (xs.take 0).length 0 (xs.take 0) := by
  rw [List.take_zero]
  exact ⟨rfl, Nat.le_refl _, by omega, fun h => by simp at h⟩

/-- What util.LdRead hands back of what stands behind place i. -/
def LuEnd (g ga n c i : Nat) (r : LongR) (ve : Value) (w : World) (e : Ending) (w' : World) : Prop :=
  (∃ j q, RdrAt w' g ga n c j q) ∧ Ex (· = g) w w' ∧
  match r with
  | .ended _ => e = .returned (.tuple #[.slice none 0 0, ve])
  | .left => False
  | .failed => ∃ v, e = .returned (.tuple #[.slice none 0 0, v]) ∧ NotEof v w'
  | .read d N => (∃ A cap, e = .returned (.tuple #[.slice A d.length cap, .nilIface]) ∧ RdB w' A d.length cap d) ∧ ∃ q, RdrAt w' g ga n c (i + N) q

set_option maxHeartbeats 4000000 in
set_option maxRecDepth 100000 in
/-- util.LdRead. -/
theorem ldRead_calls (g ga n c i : Nat) (q : Int) (bs : List UInt8) (ve vu vo vn : Value) (ze : Bool) (most : Nat) (w : World) (hg : RdrAt w g ga n c i q) (hr : RdB w (some ⟨ga, 0, none⟩) n c bs) (hag : ga < g) (hn : n ≤ 4611686018427387904) (hlt : 0 < g) (he : ∀ w', Ex (· = g) w w' → RdErrs ve vu vo vn w')
    (hl : ∀ w', Ex (· = g) w w' → ∃ v, w'.cell? ⟨1, 0, none⟩ = some v ∧ NotEof v w') (hm : most ≤ 33554432) (hnl : longRead (bs.drop i) ze most ≠ .left) :
    Calls Tryz.prog 77 #[.iface 104 (.pointer (some ⟨g, 0, none⟩)), .bool ze, .int .u64 most] w fun e w' => LuEnd g ga n c i (longRead (bs.drop i) ze most) ve w e w' := by
  have HS := Kp.mk (ldSize_calls g ga n c i q bs ve vu vo vn ze most w hg hr hag hn hlt he hl)
  have he0 := he w (Ex.refl _ _)
  obtain ⟨Te, ue, rfl⟩ := he0.eofE.iface
  obtain ⟨Tu, uu, rfl⟩ := he0.ueofE.iface
  have HE := Kp.mk he
  have HX := Kp.mk (And.intro hr (And.intro hag (And.intro hn (And.intro hm hnl))))
  have hrl := hr.len
  have HLn := Kp.mk hrl
  clear hg hr hag hn hlt he hl he0 hm hnl hrl
  go_enter Tryz.func77, Tryz.ntmps77
  go_wp2_with fail
  refine HS.out.mono ?_
  rintro e w1 ⟨hj, hb, hu⟩
  cases hrd : uvRead (bs.drop i) with
  | none =>
    rw [hrd] at hu
    obtain ⟨v, rfl, hv⟩ := hu
    obtain ⟨T, u, rfl⟩ : ∃ T u, v = .iface T u := by
      rcases hv with ⟨_, rfl⟩ | ⟨_, t, _, h⟩
      · exact ⟨_, _, rfl⟩
      · exact h.iface
    have HD := Kp.mk (And.intro hj (And.intro hb (And.intro hrd hv)))
    clear hj hb hrd hv HS
    go_wp2_with fail
    go_ret2
    refine ⟨HD.out.1, HD.out.2.1, ?_⟩
    rcases HD.out.2.2.2 with ⟨h1, h2⟩ | ⟨h1, h2⟩
    · rw [h1, h2]; rfl
    · rw [long_bad h1 HD.out.2.2.1]; exact ⟨_, rfl, h2⟩
  | some p =>
    obtain ⟨x, k⟩ := p
    rw [hrd] at hu
    simp only at hu
    have hne := uv_ne hrd
    by_cases h0 : x = 0 ∧ ze = true
    · rw [if_pos h0] at hu
      obtain ⟨rfl, q1, hq1⟩ := hu
      obtain ⟨rfl, rfl⟩ := h0
      have HD := Kp.mk (And.intro hj (And.intro hb (long_zero (most := most) hne hrd)))
      clear hj hb hrd hne HS hq1
      go_wp2_with fail
      go_ret2
      exact ⟨HD.out.1, HD.out.2.1, by rw [HD.out.2.2]; rfl⟩
    · rw [if_neg h0] at hu
      by_cases hmx : most < x
      · rw [if_pos hmx] at hu
        obtain ⟨v, rfl, hv⟩ := hu
        obtain ⟨T, u, rfl⟩ : ∃ T u, v = .iface T u := by obtain ⟨t, _, h⟩ := hv; exact h.iface
        have HD := Kp.mk (And.intro hj (And.intro hb (And.intro (long_much (ze := ze) hne hrd hmx) hv)))
        clear hj hb hrd hne HS hv h0
        go_wp2_with fail
        go_ret2
        exact ⟨HD.out.1, HD.out.2.1, by rw [HD.out.2.2.1]; exact ⟨_, rfl, HD.out.2.2.2⟩⟩
      · rw [if_neg hmx] at hu
        obtain ⟨rfl, q1, hq1⟩ := hu
        have hxm : x ≤ 33554432 := by have := HX.out.2.2.2.1; omega
        have hmk := mk_bytes_u 67 Tryz.underlying67 x (by omega)
        have HD := Kp.mk (And.intro hb (And.intro hq1 (And.intro hrd (And.intro hne (And.intro h0 hmx)))))
        have hgw : g < w1.heap.size := (Array.getElem?_eq_some_iff.1 hq1).1
        have HGW := Kp.mk hgw
        clear hj hb hrd hne HS h0 hq1
        go_wp2_with fail
        generalize hW : w1.alloc _ = W
        have hbw : Below w1.heap.size w1 W := by rw [← hW]; exact bel_alloc (Below.refl _ _) _
        have hgd : W.heap[w1.heap.size]? = some (.cells (zeros x) 5 (0, 0)) := by rw [← hW]; exact blk_new (Below.refl _ _)
        have hgW := blk_keep HD.out.2.1 hbw
        have hrW := ((HX.out.1.ex HD.out.1 (Nat.ne_of_lt HX.out.2.1)).below hbw)
        have hBW : Ex (· = g) w W := HD.out.1.trans (Ex.of_below hbw)
        have hNW : ∀ w2, Ex (fun k => k = g ∨ k = w1.heap.size) W w2 → Ex (· = g) w w2 := fun w2 h => HD.out.1.trans (Ex.new hbw h (fun k hk hq => hq.elim id (fun e => absurd hk (by omega))))
        have hel : ((bs.drop i).drop k) = bs.drop (i + k) := by rw [List.drop_drop]
        have hdl : (bs.drop i).length = n - i := by rw [List.length_drop, HLn.out]
        have hk := (uvRead_some HD.out.2.2.1).2.1
        have heW : ∀ w', Ex (fun k => k = g ∨ k = w1.heap.size) W w' → RdErrs (.iface Te ue) (.iface Tu uu) vo vn w' := fun w' h => HE.out w' (hNW w' h)
        have HNW := Kp.mk hNW
        by_cases hx0 : x = 0
        · subst hx0
          have HF := Kp.mk (fullNone_calls g (some ⟨w1.heap.size, 0, none⟩) 0 W)
          have HR := Kp.mk (And.intro (long_read HD.out.2.2.2.1 HD.out.2.2.1 HD.out.2.2.2.2.2 (fun h => HD.out.2.2.2.2.1 ⟨h.2, h.1⟩) (fun h => by omega) (by omega)) (And.intro hgW hBW))
          have HZ := Kp.mk (rd_of_zero (xs := (bs.drop i).drop k) hgd)
          clear hW hbw hgd hgW hrW hBW hel hdl hk heW hmk hNW
          refine HF.out.mono ?_
          rintro e w' ⟨rfl, rfl⟩
          go_wp2_with fail
          go_ret2
          refine ⟨⟨_, _, HR.out.2.1⟩, HR.out.2.2, ?_⟩
          rw [HR.out.1]
          exact ⟨⟨_, _, rfl, HZ.out⟩, _, HR.out.2.1⟩
        · by_cases hall : i + k + x ≤ n
          · have HF := Kp.mk (fullAll_calls g ga w1.heap.size n c x (i + k) q1 bs W hgW hrW HX.out.2.1 hgw hgd (by omega) hall HX.out.2.2.1)
            have HR := Kp.mk (And.intro (long_read HD.out.2.2.2.1 HD.out.2.2.1 HD.out.2.2.2.2.2 (fun h => HD.out.2.2.2.2.1 ⟨h.2, h.1⟩) (fun h => by omega) (by omega)) hBW)
            rw [hel] at HR
            have hlen : ((bs.drop (i + k)).take x).length = x := by rw [List.length_take, List.length_drop, HLn.out]; omega
            have HLE := Kp.mk hlen
            clear hW hbw hgd hgW hrW hBW hel hdl hk heW hmk hNW hlen hall hx0
            refine HF.out.mono ?_
            rintro e w2 ⟨⟨rfl, h1, h2⟩, h3⟩
            have HO := Kp.mk (And.intro h1 (And.intro h2 (HNW.out _ h3)))
            clear h1 h2 h3 HF
            go_wp2_with fail
            go_ret2
            refine ⟨⟨_, _, HO.out.1⟩, HO.out.2.2, ?_⟩
            rw [HR.out.1]
            refine ⟨⟨some ⟨w1.heap.size, 0, none⟩, x, ?_, ?_⟩, _, by rw [← Nat.add_assoc]; exact HO.out.1⟩
            · rw [HLE.out]; rfl
            · rw [HLE.out]; exact HO.out.2.1
          · have hki : ¬ k = (bs.drop i).length := fun h => HX.out.2.2.2.2 (long_left HD.out.2.2.2.1 HD.out.2.2.1 HD.out.2.2.2.2.2 (fun h => HD.out.2.2.2.2.1 ⟨h.2, h.1⟩) ⟨by omega, h⟩)
            have HF := Kp.mk (fullLess_calls g ga w1.heap.size n c 0 x x (n - (i + k)) (i + k) q1 bs (zeros x) (.iface Te ue) (.iface Tu uu) vo vn W hgW hrW HX.out.2.1 hgw hgd (by rw [zeros_size]; omega) (Nat.le_refl _) (by omega) (by omega) (by omega) (by omega) HX.out.2.2.1 heW)
            have HR := Kp.mk (And.intro (long_less HD.out.2.2.2.1 HD.out.2.2.1 HD.out.2.2.2.2.2 (fun h => HD.out.2.2.2.2.1 ⟨h.2, h.1⟩) (fun h => hki h.2) (by omega)) hBW)
            clear hW hbw hgd hgW hrW hBW hel hdl hk heW hmk hNW hall hx0 hki
            refine HF.out.mono ?_
            rintro e w2 ⟨⟨rfl, h1⟩, h3⟩
            have HO := Kp.mk (And.intro h1 (And.intro (HNW.out _ h3) (HE.out _ (HNW.out _ h3)).ueofN))
            clear h1 h3 HF
            go_wp2_with fail
            go_ret2
            obtain ⟨q2, hq2⟩ := HO.out.1
            refine ⟨⟨_, _, hq2⟩, HO.out.2.1, ?_⟩
            rw [HR.out.1]
            exact ⟨_, rfl, HO.out.2.2⟩

end Go.Proofs.YtkcpgcaccgahaaaGreatDoor
