/- The walks of multihash.Cast and the two ways of impl.cidOut. -/
import Derived.Test.YtkcpgcaccgahaaaGreatDoorCidOut
import Derived.Test.YtkcpgcaccgahaaaGreatDoorGrowA
namespace Go.Proofs.YtkcpgcaccgahaaaGreatDoor
open Go.RowKit

theorem cid0_bytes {d : List UInt8} (hd : d.length = 32) : (18 : UInt8) :: 32 :: d = mhBytes 18 d := by
  rw [mhBytes, hd, Lib.uvarint_small (by omega), Lib.uvarint_small (by omega)]; rfl
theorem cid0_mh {d : List UInt8} (hd : d.length = 32) : mhRead (18 :: 32 :: d) = some (18, d, 34) := by
  have h := mhRead_mhBytes (code := 18) (d := d) [] (by omega) (by omega)
  rw [List.append_nil, ← cid0_bytes hd] at h
  rw [h]; simp [hd]

/-- impl.cidOut of one of version 0. -/
theorem cidOut0_calls (d : List UInt8) (w : World) (hd : d.length = 32) (he : MhErrs w) :
    Calls Tryz.prog 56 #[.agg #[.string (strB (18 :: 32 :: d))]] w fun e w' => e = .returned (.agg #[.int .u64 0, .int .u64 112, .int .u64 18, .string (strB d)]) ∧ Below w.heap.size w w' := by
  have hs : (strB (18 :: 32 :: d)).size = 34 := by rw [strB_size]; simp [hd]
  have hb : bl (strB (18 :: 32 :: d)) = 18 :: 32 :: d := bl_strB _
  exact cidOut_gen _ 0 112 18 18 32 34 (18 :: 32 :: d) d w he ⟨fun w => cidPre0_calls _ w hs (by rw [hb]; rfl) (by rw [hb]; rfl)⟩
    ⟨fun w _ => by
      have h := cidHash0_calls _ w hs (by rw [hb]; rfl) (by rw [hb]; rfl)
      rw [hs, hb] at h
      exact h⟩ ⟨cid0_mh hd⟩ (by omega) ⟨by simp [hd]⟩

/-- impl.cidOut of one of version 1. -/
theorem cidOut1_calls (s : ByteArray) (codec code : Nat) (d : List UInt8) (m k : Nat) (w : World) (h : CidS s codec code d m k) (he : MhErrs w) :
    Calls Tryz.prog 56 #[.agg #[.string s]] w fun e w' => e = .returned (.agg #[.int .u64 1, .int .u64 codec, .int .u64 code, .string (strB d)]) ∧ Below w.heap.size w w' := by
  have hl : ((bl s).drop (1 + m)).length = s.size - (1 + m) := by rw [List.length_drop, bl_length]
  have hm := h.mh
  rw [← h.d2, hl] at hm
  exact cidOut_gen s 1 codec code code d.length _ _ d w he ⟨fun w => cidPre1_calls s codec code d m k w h⟩ ⟨fun w he => cidHash1_calls s codec code d m k w h he⟩ ⟨hm⟩ (by have := h.size; omega) ⟨hl.symm⟩

set_option maxHeartbeats 1600000 in
set_option maxRecDepth 100000 in
/-- multihash.Cast of a multihash. -/
theorem cast_calls (A : Option Addr) (n c : Nat) (bs : List UInt8) (code : Nat) (d : List UInt8) (w : World) (hr : RdB w A n c bs) (he : MhErrs w) (hn : n ≤ 2147483647) (hm : mhRead bs = some (code, d, n)) (hl : n = bs.length) :
    Calls Tryz.prog 173 #[.slice A n c] w fun e w' => e = .returned (.tuple #[.slice A n c, .nilIface]) ∧ Below w.heap.size w w' := by
  have HD := Kp.mk (decodeP_calls A n c bs w hr he hn)
  have HM := Kp.mk (And.intro hm hl)
  clear hr he hm hl
  go_enter Tryz.func173, Tryz.ntmps173
  go_wp2_with fail
  refine HD.out.mono ?_
  rintro e w1 ⟨hu, hb⟩
  unfold DdEnd at hu
  rw [HM.out.1] at hu
  simp only at hu
  rw [if_pos HM.out.2] at hu
  obtain ⟨g, A', c', rfl, _, _, _⟩ := hu
  have HB := Kp.mk hb
  clear hb HD
  go_wp2_with fail
  go_ret2
  exact ⟨rfl, HB.out⟩

/-- What the walks below need of the package-level variables. -/
structure CdErrs (w : World) : Prop where
  mh : MhErrs w
  undef : ∃ s, w.cell? ⟨10, 0, none⟩ = some (.string s)
theorem CdErrs.below {w w1 : World} (h : CdErrs w) (hb : Below w.heap.size w w1) : CdErrs w1 := by
  obtain ⟨h1, s, h2⟩ := h
  exact ⟨h1.below hb, s, cell_bel hb h2⟩

/-- What cid.CidFromBytes hands back. -/
def CfEnd (bs : List UInt8) (e : Ending) : Prop :=
  match cdRead bs with
  | some (_, _, _, _, n) => e = .returned (.tuple #[.int .i64 n, .agg #[.string (strB (bs.take n))], .nilIface])
  | none => ∃ v s T u, T = 275 ∧ e = .returned (.tuple #[v, .agg #[.string s], .iface T u])
theorem cfEnd_none {bs : List UInt8} (h : cdRead bs = none) {v u : Value} {s : ByteArray} : CfEnd bs (.returned (.tuple #[v, .agg #[.string s], .iface 275 u])) := by
  unfold CfEnd; rw [h]; exact ⟨v, s, _, u, rfl, rfl⟩
theorem cfEnd_some {bs : List UInt8} {a b c : Nat} {d : List UInt8} {N : Nat} {n : Int} {s : ByteArray} (h : cdRead bs = some (a, b, c, d, N)) (hn : n = N) (hs : s = strB (bs.take N)) : CfEnd bs (.returned (.tuple #[.int .i64 n, .agg #[.string s], .nilIface])) := by
  subst hn hs; unfold CfEnd; rw [h]

/-- What the operations of a region that hands back an error leave. -/
def ceR (r : Nat) (su : ByteArray) (i : Nat) (v : Value) (w : World) : Prop :=
  match i with
  | 0 => v = .agg #[.string su]
  | 1 => ∃ T u, v = .iface T u
  | 2 => ∃ x, v = .agg #[x]
  | 3 => ∃ x, v = .iface 275 x
  | 4 => v = .int .i64 0
  | 5 => w.heap[r]? = some (.cells #[.string su] 135 (0, 0))
  | 6 => ∃ x, v = .iface 275 x
  | _ => True
theorem ceR_keep {r : Nat} {su : ByteArray} {C0 : Obj} {i : Nat} {v : Value} {w w' : World} (h : ceR r su i v w) (hb : OneStep r C0 (.cells #[.string su] 135 (0, 0)) w w') : ceR r su i v w' := by
  unfold ceR at *
  split at h <;> first | exact h | exact hb.2.1 h
theorem one_of {r : Nat} {t : TypeId} {a b : ByteArray} {w : World} (h : w.heap[r]? = some (.cells #[.string a] t (0, 0)) ∨ w.heap[r]? = some (.cells #[.string b] t (0, 0))) : ∃ s : ByteArray, w.heap[r]? = some (.cells #[.string s] t (0, 0)) :=
  h.elim (fun h => ⟨_, h⟩) (fun h => ⟨_, h⟩)
theorem store_step {r : Nat} {t : TypeId} {a s : ByteArray} {w : World} (h : w.heap[r]? = some (.cells #[.string a] t (0, 0)) ∨ w.heap[r]? = some (.cells #[.string s] t (0, 0))) :
    (w.setCell ⟨r, 0, none⟩ (.string s)).heap[r]? = some (.cells #[.string s] t (0, 0)) ∧ OneStep r (.cells #[.string a] t (0, 0)) (.cells #[.string s] t (0, 0)) w (w.setCell ⟨r, 0, none⟩ (.string s)) := by
  obtain ⟨s0, h0⟩ := one_of h
  have h1 : (w.setCell ⟨r, 0, none⟩ (.string s)).heap[r]? = some (.cells #[.string s] t (0, 0)) := blk_set h0 0 _
  exact ⟨h1, (Below.refl r w).setCell (p := ⟨r, 0, none⟩) (Nat.le_refl _) _, fun _ => h1, fun _ => .inr h1⟩
theorem res_cell_mid {P : Program} {fn : Func} {p u x : Tmp} {ty : TypeId} (h : fn.results = #[.tmp u, .cell p ty, .tmp x]) (tmps : Array Value) (w : World) (g : Nat) (t : TypeId) (cs : Array Value) (d : TypeDesc) (hp : tmps.getD p undef = .pointer (some ⟨g, 0, none⟩)) (hg : w.heap[g]? = some (.cells cs t (0, 0)))
    (hu : P.underlying ty = some d) (hd : (match d with | .struct _ | .array _ _ => true | _ => false) = true) (hi : (P.info? ty).map (·.size) = some cs.size) : (results fn tmps).run P w = .ok (.tuple #[tmps.getD u undef, .agg cs, tmps.getD x undef]) w := by
  have hr := run_loadVar_row (P := P) w g t ty cs (0, 0) d hg hu hd hi
  have hp' : tmps[p]?.getD undef = .pointer (some ⟨g, 0, none⟩) := by rw [← hp, Array.getD_eq_getD_getElem?]
  simp [results, h, asAddr, hr, hp']

end Go.Proofs.YtkcpgcaccgahaaaGreatDoor
