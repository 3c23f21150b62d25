/- The walks of impl.cidIn (of one of version 1) and impl.CdBytes. -/
import Derived.Test.YtdppnlomhlnbkaaDoorNewV1
import Derived.Test.YtdppnlomhlnbkaaDoorCidA
import Derived.Defers
import Derived.Recover
namespace Go.Proofs.YtdppnlomhlnbkaaDoor
open Go.RowKit

set_option maxHeartbeats 800000 in
/-- The deferred closure of impl.cidIn where nothing panics. -/
theorem cidIn_idle (p q : Value) (w : World) :
    CallsD Tryd.prog 50 #[p, q] .returning w fun e u' w' => e = .returned (.tuple #[]) ∧ u' = .returning ∧ w' = w := by
  refine callsD_of_wpS Tryd.func50 rfl fun c₀ cs hu => ?_
  apply wpS_seq
  apply wpS_region
  simp [wpOpsS, go_sem, recoverD, hu, Tryd.ntmps50, Exit.thenS]
  refine wpS_cond (t := false) (by simp [Act.eval, Array.replicate]) ?_
  simp only [Bool.false_eq_true, if_false]
  refine wpS_of_wp (wp_skip ?_)
  cases c₀
  simp_all [bodyPostS, results, Tryd.results50]

theorem res_cells2 {P : Program} {fn : Func} {p u : Tmp} {ty tb : TypeId} (h : fn.results = #[.cell p ty, .cell u tb]) (tmps : Array Value) (w : World) (g : Nat) (t : TypeId) (cs : Array Value) (d : TypeDesc) (a : Addr) (b : Value) (hp : tmps.getD p undef = .pointer (some ⟨g, 0, none⟩)) (hq : tmps.getD u undef = .pointer (some a)) (hg : w.heap[g]? = some (.cells cs t (0, 0)))
    (hu : P.underlying ty = some d) (hd : (match d with | .struct _ | .array _ _ => true | _ => false) = true) (hi : (P.info? ty).map (·.size) = some cs.size)
    (ha : ∀ w, (isAgg tb).run P w = .ok false w) (hb : w.cell? a = some b) : (results fn tmps).run P w = .ok (.tuple #[.agg cs, b]) w := by
  have hr := run_loadVar_row (P := P) w g t ty cs (0, 0) d hg hu hd hi
  have hr2 : (loadVar tb a).run P w = .ok b w := by
    simp [loadVar, ha, hb, go_sem]
  have hp' : tmps[p]?.getD undef = .pointer (some ⟨g, 0, none⟩) := by rw [← hp, Array.getD_eq_getD_getElem?]
  have hq' : tmps[u]?.getD undef = .pointer (some a) := by rw [← hq, Array.getD_eq_getD_getElem?]
  simp [results, h, asAddr, hr, hr2, hp', hq']

set_option maxHeartbeats 4000000 in
set_option maxRecDepth 100000 in
/-- impl.cidIn of one of version 1. -/
theorem cidIn1_calls (s : ByteArray) (codec code : Nat) (w : World) (hc : codec < 2 ^ 64) (hx : code < 2 ^ 64) (hs : s.size ≤ 1073741824) :
    Calls Tryd.prog 30 #[.agg #[.int .u64 1, .int .u64 codec, .int .u64 code, .string s]] w fun e w' => e = .returned (.tuple #[.agg #[.string (strB (cdBytes codec code (bl s)))], .bool true]) ∧ Below w.heap.size w w' := by
  have hmf : ∀ (fn : Fn) (first cap : Array Value) (w : World), (Instr.makeFunc fn first cap).run Tryd.prog w = .ok (.func fn first cap) w := fun _ _ _ _ => rfl
  have hkb := fun W => Lib.run_convert_string_bytes (P := Tryd.prog) W 9 62 5 s Tryd.underlying9 Tryd.underlying62 Tryd.underlying5
  have hbc : ∀ o1 o2, (Lib.bytesWorld (((w.alloc (.cells #[.int .u64 1, .int .u64 codec, .int .u64 code, .string s] 24)).alloc o1).alloc o2) 5 s).cell? ⟨w.heap.size, 2, none⟩ = some (.int .u64 code) := fun o1 o2 =>
    blk_cell (blk_keep (blk_new (w := w) (bel_alloc (bel_alloc (Below.refl _ _) o1) o2)) (bel_bytes (Below.refl _ _) _ s)) 2
  have HX := Kp.mk (And.intro hc (And.intro hx hs))
  clear hc hx hs
  go_enter_defers Tryd.func30, Tryd.ntmps30
  go_wp2_with fail
  generalize hW0 : ((w.alloc _).alloc _).alloc _ = W0
  have hr0 : W0.heap[w.heap.size]? = some (.cells #[.int .u64 1, .int .u64 codec, .int .u64 code, .string s] 24 (0, 0)) := by rw [← hW0]; exact blk_new (bel_alloc (bel_alloc (Below.refl _ _) _) _)
  have hr1 : W0.heap[w.heap.size + 1]? = some (.cells #[.string ⟨#[]⟩] 57 (0, 0)) := by rw [← hW0]; exact blk_new2 (bel_alloc (Below.refl _ _) _)
  have hr2 : W0.heap[w.heap.size + 1 + 1]? = some (.cells #[.bool false] 4 (0, 0)) := by
    rw [← hW0]; have := blk_new2 (w := w.alloc (.cells #[.int .u64 1, .int .u64 codec, .int .u64 code, .string s] 24)) (o := .cells #[.string ⟨#[]⟩] 57) (o2 := .cells #[.bool false] 4) (Below.refl _ _)
    simpa [World.alloc, -World.alloc_eq] using this
  have hb0 : Below w.heap.size w W0 := by rw [← hW0]; exact bel_alloc (bel_alloc (bel_alloc (Below.refl _ _) _) _) _
  have hs0 : W0.heap.size = w.heap.size + 1 + 1 + 1 := by rw [← hW0]; simp [World.alloc, -World.alloc_eq]
  have hrd := rd_bytes W0 5 s (by have := HX.out; omega)
  rw [hs0] at hrd
  generalize hgc : grownCap W0 s.size 0 5 = gc at *
  have hb1 : Below W0.heap.size W0 (Lib.bytesWorld W0 5 s) := bel_bytes (Below.refl _ _) _ _
  generalize hW1 : Lib.bytesWorld W0 5 s = W1 at *
  have HEn := Kp.mk (mhEncode_calls _ _ _ _ code _ W1 hrd HX.out.2.1 (by have := HX.out; omega))
  have HR0 := Kp.mk (blk_keep hr0 hb1)
  have HR1 := Kp.mk (blk_keep hr1 hb1)
  have HR2 := Kp.mk (blk_keep hr2 hb1)
  have HB1 := Kp.mk (bel_then hb0 hb1)
  clear hW0 hr0 hr1 hr2 hb0 hs0 hrd hgc hb1 hW1 hkb hbc hmf
  refine HEn.out.mono ?_
  rintro e w2 ⟨⟨rfl, hrd⟩, hb⟩
  have hR0 := blk_keep HR0.out hb
  have HR1' := Kp.mk (blk_keep HR1.out hb)
  have HR2' := Kp.mk (blk_keep HR2.out hb)
  have HB2 := Kp.mk (bel_then HB1.out hb)
  have c0 := blk_cell hR0 0
  have c1 := blk_cell hR0 1
  have hml : (mhBytes code (bl s)).length ≤ 2147483647 ∧ 0 < (mhBytes code (bl s)).length := by
    have h1 := uvarint_len code HX.out.2.1
    have h2 := uvSize_le HX.out.2.1
    have h3 := uvSize_pos HX.out.2.1
    have h4 := HX.out.2.2
    have h5 := uvarint_len s.size (by omega)
    have h6 := uvSize_le (x := s.size) (by omega)
    rw [mhBytes, List.length_append, List.length_append, bl_length, h1, h5]
    omega
  have HN := Kp.mk (newV1_calls _ _ _ _ codec _ w2 hrd HX.out.1 hml.1 hml.2)
  generalize (mhBytes code (bl s)).length = L at *
  clear hb HR0 HR1 HR2 HB1 hR0 HEn hrd hml
  go_wp2_with fail
  refine HN.out.mono ?_
  rintro e w3 ⟨rfl, hb⟩
  have HR1 := Kp.mk (blk_keep HR1'.out hb)
  have HR2 := Kp.mk (blk_keep HR2'.out hb)
  have HB3 := Kp.mk (bel_then HB2.out hb)
  have d1 := blk_cell HR1.out 0
  have f1 := blk_frozen HR1.out 0
  have d2 := blk_cell HR2.out 0
  have f2 := blk_frozen HR2.out 0
  clear hb HN HR1' HR2' HB2 c0 c1
  go_wp2_with fail
  refine leaves_cons (f := 50) (args := #[.pointer (some ⟨w.heap.size + 1, 0, none⟩), .pointer (some ⟨w.heap.size + 1 + 1, 0, none⟩)]) (by simp) (by simp [go_sem]) ?_
  refine (cidIn_idle _ _ _).mono ?_
  rintro e u' w'' ⟨rfl, rfl, rfl⟩
  refine ⟨_, res_cells2 rfl _ _ (w.heap.size + 1) 57 #[.string (strB (cdBytes codec code (bl s)))] _ ⟨w.heap.size + 1 + 1, 0, none⟩ (.bool true) rfl rfl
    (blk_far (blk_set HR1.out 0 _) (by show w.heap.size + 1 ≠ w.heap.size + 1 + 1; omega) _) Tryd.underlying57 rfl (by kernel_rfl) Tryd.isAgg4
    (blk_cell (blk_set (blk_far HR2.out (by show w.heap.size + 1 + 1 ≠ w.heap.size + 1; omega) _) 0 _) 0), rfl, ?_⟩
  exact bel_set (bel_set HB3.out (by show w.heap.size ≤ w.heap.size + 1; omega) _) (by show w.heap.size ≤ w.heap.size + 1 + 1; omega) _

set_option maxHeartbeats 4000000 in
set_option maxRecDepth 100000 in
/-- impl.CdBytes of an identifier that is made. -/
theorem cdBy_gen (v codec code : Nat) (s x : ByteArray) (w : World)
    (H : Kp (∀ w, Calls Tryd.prog 30 #[.agg #[.int .u64 v, .int .u64 codec, .int .u64 code, .string s]] w fun e w' => e = .returned (.tuple #[.agg #[.string x], .bool true]) ∧ Below w.heap.size w w')) :
    Calls Tryd.prog 13 #[.agg #[.int .u64 v, .int .u64 codec, .int .u64 code, .string s]] w fun e w' => e = .returned (.tuple #[.string x, .bool true]) ∧ Below w.heap.size w w' := by
  have HK := Kp.mk (fun w => cidKey_calls x w)
  go_enter Tryd.func13, Tryd.ntmps13
  go_wp2_with fail
  refine (H.out _).mono ?_
  rintro e w1 ⟨rfl, hb⟩
  have HB1 := Kp.mk (bel_new hb)
  clear hb H
  go_wp2_with fail
  refine (HK.out _).mono ?_
  rintro e w2 ⟨rfl, hb⟩
  have HB2 := Kp.mk (bel_then HB1.out (bel_new hb))
  clear hb HK HB1
  go_wp2_with fail
  go_ret2
  exact ⟨rfl, HB2.out⟩

/-- impl.CdBytes of one of version 1. -/
theorem cdBy1_calls (s : ByteArray) (codec code : Nat) (w : World) (hc : codec < 2 ^ 64) (hx : code < 2 ^ 64) (hs : s.size ≤ 1073741824) :
    Calls Tryd.prog 13 #[.agg #[.int .u64 1, .int .u64 codec, .int .u64 code, .string s]] w fun e w' => e = .returned (.tuple #[.string (strB (cdBytes codec code (bl s))), .bool true]) ∧ Below w.heap.size w w' :=
  cdBy_gen 1 codec code s _ w ⟨fun w => cidIn1_calls s codec code w hc hx hs⟩

end Go.Proofs.YtdppnlomhlnbkaaDoor
