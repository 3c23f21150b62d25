/- The walks of the functions that take a multihash apart, and of impl.MhEncode. -/
import Derived.Test.YtdppnlomhlnbkaaDoorMhEnc
import Derived.Test.YtdppnlomhlnbkaaDoorMhRd
namespace Go.Proofs.YtdppnlomhlnbkaaDoor
open Go.RowKit



















/-- What multihash.decode hands back. -/
def DcEnd (A : Option Addr) (n0 c : Nat) (bs : List UInt8) (e : Ending) : Prop :=
  match mhRead bs with
  | some (code, d, n) => if n = bs.length then ∃ A' c', e = .returned (.tuple #[.agg #[.int .u64 code, .string ⟨#[]⟩, .int .i64 d.length, .slice A' d.length c'], .nilIface]) ∧ Part A n0 c bs A' d.length c' d
      else ∃ a b c A1 n1 c1 T u, e = .returned (.tuple #[.agg #[.int .u64 a, .string b, .int .i64 c, .slice A1 n1 c1], .iface T u])
  | none => ∃ a b c A1 n1 c1 T u, e = .returned (.tuple #[.agg #[.int .u64 a, .string b, .int .i64 c, .slice A1 n1 c1], .iface T u])
theorem dcEnd_none {A : Option Addr} {n0 c0 : Nat} {bs : List UInt8} (h : mhRead bs = none) {a c : Int} {b : ByteArray} {A1 : Option Addr} {n1 c1 : Nat} {u : Value} {T : TypeId} : DcEnd A n0 c0 bs (.returned (.tuple #[.agg #[.int .u64 a, .string b, .int .i64 c, .slice A1 n1 c1], .iface T u])) := by
  unfold DcEnd; rw [h]; exact ⟨a, b, c, A1, n1, c1, T, u, rfl⟩
theorem dcEnd_less {A : Option Addr} {n0 c0 : Nat} {bs : List UInt8} {code N : Nat} {dg : List UInt8} (h : mhRead bs = some (code, dg, N)) (hN : N ≠ bs.length) {a c : Int} {b : ByteArray} {A1 : Option Addr} {n1 c1 : Nat} {u : Value} {T : TypeId} : DcEnd A n0 c0 bs (.returned (.tuple #[.agg #[.int .u64 a, .string b, .int .i64 c, .slice A1 n1 c1], .iface T u])) := by
  unfold DcEnd; rw [h]; simp only; rw [if_neg hN]; exact ⟨a, b, c, A1, n1, c1, T, u, rfl⟩
theorem dcEnd_some {A : Option Addr} {n0 c0 : Nat} {bs : List UInt8} {code N : Nat} {d : List UInt8} {A' : Option Addr} {c' : Nat} (h : mhRead bs = some (code, d, N)) (hN : N = bs.length) (hr : Part A n0 c0 bs A' d.length c' d) :
    DcEnd A n0 c0 bs (.returned (.tuple #[.agg #[.int .u64 code, .string ⟨#[]⟩, .int .i64 d.length, .slice A' d.length c'], .nilIface])) := by
  unfold DcEnd; rw [h]; simp only; rw [if_pos hN]; exact ⟨A', c', rfl, hr⟩

set_option maxHeartbeats 1600000 in
set_option maxRecDepth 100000 in
theorem decode_calls (A : Option Addr) (n c : Nat) (bs : List UInt8) (w : World) (hr : RdB w A n c bs) (he : MhErrs w) (hn31 : n ≤ 2147483647) :
    Calls Tryd.prog 59 #[.slice A n c] w fun e w' => DcEnd A n c bs e ∧ Below w.heap.size w w' := by
  have HF := Kp.mk (fun W (hb : Below w.heap.size w W) => mhBuf_calls A n c bs W (hr.below hb) (he.below hb) hn31)
  have hl := hr.len
  clear hr he
  go_enter Tryd.func59, Tryd.ntmps59
  go_wp2_with fail
  refine (HF.out _ (bel_alloc (Below.refl _ _) _)).mono ?_
  rintro e w1 ⟨hu, hb⟩
  have hg := blk_new hb
  have HB := Kp.mk (bel_new hb)
  have c0 := blk_cell hg 0
  have c1 := blk_cell hg 1
  have c2 := blk_cell hg 2
  have c3 := blk_cell hg 3
  have f0 := blk_frozen hg 0
  have f1 := blk_frozen hg 1
  have f2 := blk_frozen hg 2
  have f3 := blk_frozen hg 3
  have HG := Kp.mk hg
  clear hb HF hg
  unfold MhEnd at hu
  cases hrd : mhRead bs with
  | none =>
    rw [hrd] at hu
    obtain ⟨T, u, rfl⟩ := hu
    have HM := Kp.mk hrd
    clear hrd
    go_wp2_with fail
    refine bodyPost_ret (v := .tuple #[.agg #[.int .u64 0, .string ⟨#[]⟩, .int .i64 0, .slice none 0 0], .iface T u]) (by simp [results, Tryd.results59, go_sem, c0, c1, c2, c3]) rfl ?_
    exact ⟨dcEnd_none HM.out, bel_set (bel_set (bel_set (bel_set HB.out (Nat.le_refl _) _) (Nat.le_refl _) _) (Nat.le_refl _) _) (Nat.le_refl _) _⟩
  | some p =>
    obtain ⟨code, d, N⟩ := p
    rw [hrd] at hu
    obtain ⟨A', c', rfl, hr⟩ := hu
    have HM := Kp.mk hrd
    have HR := Kp.mk hr
    clear hrd hr
    go_upto_region 5 with (fail)
    generalize hw2 : (((w1.setCell _ _).setCell _ _).setCell _ _).setCell _ _ = w2
    have hg2 : w2.heap[w.heap.size]? = some (.cells #[.int .u64 code, .string ⟨#[]⟩, .int .i64 d.length, .slice A' d.length c'] 105 (0, 0)) := by
      rw [← hw2]; exact blk_set (blk_set (blk_set (blk_set HG.out 0 _) 1 _) 2 _) 3 _
    have hb2 : Below w.heap.size w w2 := by
      rw [← hw2]; exact bel_set (bel_set (bel_set (bel_set HB.out (Nat.le_refl _) _) (Nat.le_refl _) _) (Nat.le_refl _) _) (Nat.le_refl _) _
    have HB2 := Kp.mk hb2
    have HG2 := Kp.mk hg2
    clear c0 c1 c2 c3 f0 f1 f2 f3 hw2 HG HB hb2
    have c0 := blk_cell hg2 0
    have c1 := blk_cell hg2 1
    have c2 := blk_cell hg2 2
    have c3 := blk_cell hg2 3
    have f0 := blk_frozen hg2 0
    have f1 := blk_frozen hg2 1
    have f2 := blk_frozen hg2 2
    have f3 := blk_frozen hg2 3
    clear hg2
    by_cases hN : N = n
    · have q1 : ((n : Int) == (N : Int)) = true := beq_iff_eq.2 (by omega)
      have HN := Kp.mk hN
      clear hN
      go_wp2_with fail
      refine bodyPost_ret (res_cell2 rfl _ _ w.heap.size 105 #[.int .u64 code, .string ⟨#[]⟩, .int .i64 d.length, .slice A' d.length c'] _ rfl (blk_set (blk_set (blk_set (blk_set HG2.out 0 _) 1 _) 2 _) 3 _) Tryd.underlying105 rfl (by kernel_rfl)) rfl ?_
      exact ⟨dcEnd_some HM.out (by rw [HN.out, hl]) HR.out, bel_set (bel_set (bel_set (bel_set HB2.out (Nat.le_refl _) _) (Nat.le_refl _) _) (Nat.le_refl _) _) (Nat.le_refl _) _⟩
    · have q1 : ((n : Int) == (N : Int)) = false := beq_eq_false_iff_ne.2 (by omega)
      go_wp2_with fail
      refine bodyPost_ret (res_cell2 rfl _ _ w.heap.size 105 #[.int .u64 code, .string ⟨#[]⟩, .int .i64 d.length, .slice A' d.length c'] _ rfl (blk_set (blk_set (blk_set (blk_set HG2.out 0 _) 1 _) 2 _) 3 _) Tryd.underlying105 rfl (by kernel_rfl)) rfl ?_
      exact ⟨dcEnd_less HM.out (by rw [hl]; exact hN), bel_set (bel_set (bel_set (bel_set HB2.out (Nat.le_refl _) _) (Nat.le_refl _) _) (Nat.le_refl _) _) (Nat.le_refl _) _⟩

end Go.Proofs.YtdppnlomhlnbkaaDoor
