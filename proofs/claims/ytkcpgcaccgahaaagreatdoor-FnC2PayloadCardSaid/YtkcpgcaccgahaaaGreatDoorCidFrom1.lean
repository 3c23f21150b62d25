/- The walk of cid.CidFromBytes. -/
import Derived.Test.YtkcpgcaccgahaaaGreatDoorCidFromA
namespace Go.Proofs.YtkcpgcaccgahaaaGreatDoor
open Go.RowKit

theorem cd_none1 {bs : List UInt8} (h : ¬ cdZero bs) (h1 : uvRead bs = none) : cdRead bs = none := by
  unfold cdRead; rw [if_neg h, h1]
theorem cd_none2 {bs : List UInt8} {v k : Nat} (h : ¬ cdZero bs) (h1 : uvRead bs = some (v, k)) (hv : ¬ v = 1) : cdRead bs = none := by
  unfold cdRead; rw [if_neg h, h1]; simp only; rw [if_neg hv]
theorem cd_none3 {bs : List UInt8} {k : Nat} (h : ¬ cdZero bs) (h1 : uvRead bs = some (1, k)) (h2 : uvRead (bs.drop k) = none) : cdRead bs = none := by
  unfold cdRead; rw [if_neg h, h1]; simp only; rw [if_pos trivial, h2]
theorem cd_none4 {bs : List UInt8} {k codec m : Nat} (h : ¬ cdZero bs) (h1 : uvRead bs = some (1, k)) (h2 : uvRead (bs.drop k) = some (codec, m)) (h3 : mhRead (bs.drop (k + m)) = none) : cdRead bs = none := by
  unfold cdRead; rw [if_neg h, h1]; simp only; rw [if_pos trivial, h2]; simp only; rw [h3]
theorem cd_some {bs : List UInt8} {k codec m code n : Nat} {d : List UInt8} (h : ¬ cdZero bs) (h1 : uvRead bs = some (1, k)) (h2 : uvRead (bs.drop k) = some (codec, m)) (h3 : mhRead (bs.drop (k + m)) = some (code, d, n)) : cdRead bs = some (1, codec, code, d, k + m + n) := by
  unfold cdRead; rw [if_neg h, h1]; simp only; rw [if_pos trivial, h2]; simp only; rw [h3]

theorem rd_lh (t : TypeId) (ht : Tryz.prog.underlying t = some (.slice 5)) (A : Option Addr) (n c m : Nat) (hm : m ≤ n) (hc : n ≤ c) :
    ∃ A' : Option Addr, (∀ W : World, (Instr.slice t (.slice A n c) (some (.int .i64 0)) (some (.int .i64 (m : Int))) none).run Tryz.prog W = .ok (.slice A' m c) W) ∧
      ∀ (w : World) (bs : List UInt8), RdB w A n c bs → RdB w A' m c (bs.take m) := by
  obtain ⟨i, hi, _, hs, _⟩ := info_parts info_u8
  have hel : Tryz.prog.elem t = 5 := by simp [Program.elem, ht]
  have hu : Tryz.prog.underlying t = some (.slice (Tryz.prog.elem t)) := by rw [hel]; exact ht
  refine ⟨if c = 0 then A else A.map (·.add 0), fun W => ?_, fun w bs h => ?_⟩
  · rw [run_slice_lh W t A n c hu .i64 .i64 0 (m : Int) (by omega) (by omega) (by omega), hel]
    simp [sizeOf, typeInfo, hi, hs, sliced, Result.andThen]
  · have ht := h.take m hm
    refine ⟨ht.len, ht.cap, ht.most, fun h0 => ?_⟩
    obtain ⟨g, o, rfl, hcell⟩ := ht.lies h0
    exact ⟨g, o, by simp [add_plain], hcell⟩

/-- What the operations of the region that hands back an identifier of version 1 leave. -/
def k20R (r : Nat) (A A' : Option Addr) (n c NN : Nat) (nn : Int) (S : ByteArray) (i : Nat) (v : Value) (w : World) : Prop :=
  match i with
  | 0 => v = .int .i64 nn
  | 1 => v = .slice A n c
  | 2 => v = .int .i64 nn
  | 3 => v = .slice A' NN c
  | 4 => v = .string S
  | 5 => v = .agg #[.string S]
  | 6 => v = .int .i64 nn
  | 7 => w.heap[r]? = some (.cells #[.string S] 135 (0, 0))
  | 8 => v = .nilIface
  | _ => True
theorem k20R_keep {r : Nat} {A A' : Option Addr} {n c NN : Nat} {nn : Int} {S : ByteArray} {C0 : Obj} {i : Nat} {v : Value} {w w' : World} (h : k20R r A A' n c NN nn S i v w) (hb : OneStep r C0 (.cells #[.string S] 135 (0, 0)) w w') : k20R r A A' n c NN nn S i v w' := by
  unfold k20R at *
  split at h <;> first | exact h | exact hb.2.1 h

set_option linter.constructorNameAsVariable false in
set_option maxHeartbeats 8000000 in
set_option maxRecDepth 100000 in
/-- cid.CidFromBytes of at most two bytes. -/
theorem cidFrom_oneA (A : Option Addr) (n c : Nat) (bs : List UInt8) (w : World) (su : ByteArray) (HU0 : Kp (w.cell? ⟨10, 0, none⟩ = some (.string su)))
    (HR : Kp (RdB w A n c bs)) (HE : Kp (CdErrs w)) (HZ : Kp (¬ cdZero bs)) (hn : n ≤ 2147483647)
    (HF1 : Kp (∀ ob, Calls Tryz.prog 108 #[.slice A n c] (w.alloc ob) fun e w' => UvEnd (uvRead bs) e ∧ Below (w.alloc ob).heap.size (w.alloc ob) w'))
    (h2 : n ≤ 2) :
    Calls Tryz.prog 155 #[.slice A n c] w fun e w' => CfEnd bs e ∧ Below w.heap.size w w' := by
  go_enter Tryz.func155, Tryz.ntmps155
  go_wp2_with fail
  refine (HF1.out _).mono ?_
  rintro e w1 ⟨hu, hb⟩
  have HRB := Kp.mk (blk_new hb)
  have HBW := Kp.mk (bel_new hb)
  clear hb HF1 
  unfold UvEnd at hu
  cases hr1 : uvRead bs with
  | none =>
    rw [hr1] at hu
    obtain ⟨T1, v1, rfl⟩ := hu
    have HN := Kp.mk (cd_none1 HZ.out hr1)
    clear hr1
    go_wp2_with fail
    refine wp_region_growR (OneStep w.heap.size (.cells #[.string ⟨#[]⟩] 135 (0, 0)) (.cells #[.string su] 135 (0, 0))) (fun _ => OneStep.refl _ _ _ _) (fun _ _ _ h k => h.trans k) (by kernel_rfl) 7 (by decide) (apart_of (by kernel_rfl)) (by kernel_rfl) (ceR w.heap.size su) (fun _ _ _ _ => True) (fun _ _ _ _ h hb => ceR_keep h hb) ?_ ?_
    · intro j hj ob ho vs w5 hb5 hpre
      have hlt : w.heap.size < w5.heap.size := by have h1 := hb5.1.size; have h2 := (Array.getElem?_eq_some_iff.1 HRB.out).1; have h3 : w1.drew.heap.size = w1.heap.size := rfl; omega
      have HB5 := Kp.mk (HBW.out.trans ((bel_drew (Below.refl _ w1)).trans hb5.1))
      rcases j with _ | _ | _ | _ | _ | _ | _ | j
      · obtain rfl := Option.some.inj ho
        have c9 := (HB5.out.cell (World.block_lt_of_cell? w _ HU0.out)).trans HU0.out
        simp only [canon, List.range, List.range.loop, List.foldl]
        go_simp
        exact ⟨rfl, OneStep.refl _ _ _ _⟩
      · obtain rfl := Option.some.inj ho
        simp only [canon, List.range, List.range.loop, List.foldl]
        go_simp
        exact ⟨⟨_, _, rfl⟩, OneStep.refl _ _ _ _⟩
      · obtain ⟨T, v, e1⟩ := hpre 1 (by decide) (by obtain rfl := Option.some.inj ho; rfl)
        obtain rfl := Option.some.inj ho
        simp only [canon, List.range, List.range.loop, List.foldl]
        go_simp
        exact ⟨⟨_, rfl⟩, OneStep.refl _ _ _ _⟩
      · obtain ⟨x, e2⟩ := hpre 2 (by decide) (by obtain rfl := Option.some.inj ho; rfl)
        obtain rfl := Option.some.inj ho
        simp only [canon, List.range, List.range.loop, List.foldl]
        go_simp
        exact ⟨⟨_, rfl⟩, OneStep.refl _ _ _ _⟩
      · obtain rfl := Option.some.inj ho
        simp only [canon, List.range, List.range.loop, List.foldl]
        go_simp
        exact ⟨rfl, OneStep.refl _ _ _ _⟩
      · have e0 : vs 0 = _ := hpre 0 (by decide) (by obtain rfl := Option.some.inj ho; rfl)
        have hst := store_step (s := su) (hb5.2.2 HRB.out)
        obtain ⟨s0, hblk⟩ := one_of (hb5.2.2 HRB.out)
        have c0 := blk_cell hblk 0
        have f0 := blk_frozen hblk 0
        obtain rfl := Option.some.inj ho
        simp only [canon, List.range, List.range.loop, List.foldl]
        go_simp
        exact ⟨undef, hst.1⟩
      · obtain ⟨x, e3⟩ := hpre 3 (by decide) (by obtain rfl := Option.some.inj ho; rfl)
        obtain rfl := Option.some.inj ho
        simp only [canon, List.range, List.range.loop, List.foldl]
        go_simp
        exact ⟨⟨_, rfl⟩, OneStep.refl _ _ _ _⟩
      · omega
    · intro vs w5 hb5 hr5 hd5
      have e4 : vs 4 = _ := hr5 4 (by omega)
      have h5 := hr5 5 (by omega)
      have k6 := hr5 6 (by omega)
      unfold ceR at h5 k6
      have HB5 := Kp.mk (HBW.out.trans ((bel_drew (Below.refl _ w1)).trans hb5.1))
      have HK5 := Kp.mk h5
      clear hb5 hr5 hd5 h5
      simp only [canon, List.range, List.range.loop, List.foldl]
      refine wpAny_none (by kernel_rfl) ?_ _
      simp only at k6
      obtain ⟨x, e6⟩ := k6
      go_wp2_with fail
      refine bodyPost_ret (res_cell_mid rfl _ _ w.heap.size 135 #[.string su] _ rfl HK5.out Tryz.underlying135 rfl (by kernel_rfl)) rfl ?_
      exact ⟨cfEnd_none HN.out, HB5.out⟩
  | some q =>
    obtain ⟨ver, k⟩ := q
    rw [hr1] at hu
    simp only at hu
    subst hu
    by_cases hv : ver = 1
    · subst hv
      have hk := uvRead_some hr1
      have HR1 := Kp.mk hr1
      have hkn : k ≤ n := by have := HR.out.len; omega
      clear hr1
      obtain ⟨A1, hcut, hp1⟩ := rd_cut 67 .i64 Tryz.underlying67 A n c k hkn
      have HP1 := Kp.mk hp1
      have HF2 := Kp.mk (fromUv_calls A1 (n - k) (c - k) (bs.drop k) w1 (hp1 _ _ (HR.out.below HBW.out)) (HE.out.mh.uv.below HBW.out))
      clear hp1 hk
      go_wp2_with fail
      refine HF2.out.mono ?_
      rintro e w2 ⟨hu, hb⟩
      have HRB2 := Kp.mk (blk_keep HRB.out hb)
      have HBW2 := Kp.mk (HBW.out.trans (hb.mono HBW.out.size))
      clear hb HF2 HRB HBW hcut
      have HRB := HRB2
      have HBW := HBW2
      clear HRB2 HBW2
      unfold UvEnd at hu
      cases hr2 : uvRead (bs.drop k) with
      | none =>
        rw [hr2] at hu
        obtain ⟨T1, v1, rfl⟩ := hu
        have HN := Kp.mk (cd_none3 HZ.out HR1.out hr2)
        clear hr2
        go_wp2_with fail
        refine wp_region_growR (OneStep w.heap.size (.cells #[.string ⟨#[]⟩] 135 (0, 0)) (.cells #[.string su] 135 (0, 0))) (fun _ => OneStep.refl _ _ _ _) (fun _ _ _ h k => h.trans k) (by kernel_rfl) 7 (by decide) (apart_of (by kernel_rfl)) (by kernel_rfl) (ceR w.heap.size su) (fun _ _ _ _ => True) (fun _ _ _ _ h hb => ceR_keep h hb) ?_ ?_
        · intro j hj ob ho vs w5 hb5 hpre
          have hlt : w.heap.size < w5.heap.size := by have h1 := hb5.1.size; have h2 := (Array.getElem?_eq_some_iff.1 HRB.out).1; have h3 : w2.drew.heap.size = w2.heap.size := rfl; omega
          have HB5 := Kp.mk (HBW.out.trans ((bel_drew (Below.refl _ w2)).trans hb5.1))
          rcases j with _ | _ | _ | _ | _ | _ | _ | j
          · obtain rfl := Option.some.inj ho
            have c9 := (HB5.out.cell (World.block_lt_of_cell? w _ HU0.out)).trans HU0.out
            simp only [canon, List.range, List.range.loop, List.foldl]
            go_simp
            exact ⟨rfl, OneStep.refl _ _ _ _⟩
          · obtain rfl := Option.some.inj ho
            simp only [canon, List.range, List.range.loop, List.foldl]
            go_simp
            exact ⟨⟨_, _, rfl⟩, OneStep.refl _ _ _ _⟩
          · obtain ⟨T, v, e1⟩ := hpre 1 (by decide) (by obtain rfl := Option.some.inj ho; rfl)
            obtain rfl := Option.some.inj ho
            simp only [canon, List.range, List.range.loop, List.foldl]
            go_simp
            exact ⟨⟨_, rfl⟩, OneStep.refl _ _ _ _⟩
          · obtain ⟨x, e2⟩ := hpre 2 (by decide) (by obtain rfl := Option.some.inj ho; rfl)
            obtain rfl := Option.some.inj ho
            simp only [canon, List.range, List.range.loop, List.foldl]
            go_simp
            exact ⟨⟨_, rfl⟩, OneStep.refl _ _ _ _⟩
          · obtain rfl := Option.some.inj ho
            simp only [canon, List.range, List.range.loop, List.foldl]
            go_simp
            exact ⟨rfl, OneStep.refl _ _ _ _⟩
          · have e0 : vs 0 = _ := hpre 0 (by decide) (by obtain rfl := Option.some.inj ho; rfl)
            have hst := store_step (s := su) (hb5.2.2 HRB.out)
            obtain ⟨s0, hblk⟩ := one_of (hb5.2.2 HRB.out)
            have c0 := blk_cell hblk 0
            have f0 := blk_frozen hblk 0
            obtain rfl := Option.some.inj ho
            simp only [canon, List.range, List.range.loop, List.foldl]
            go_simp
            exact ⟨undef, hst.1⟩
          · obtain ⟨x, e3⟩ := hpre 3 (by decide) (by obtain rfl := Option.some.inj ho; rfl)
            obtain rfl := Option.some.inj ho
            simp only [canon, List.range, List.range.loop, List.foldl]
            go_simp
            exact ⟨⟨_, rfl⟩, OneStep.refl _ _ _ _⟩
          · omega
        · intro vs w5 hb5 hr5 hd5
          have e4 : vs 4 = _ := hr5 4 (by omega)
          have h5 := hr5 5 (by omega)
          have k6 := hr5 6 (by omega)
          unfold ceR at h5 k6
          have HB5 := Kp.mk (HBW.out.trans ((bel_drew (Below.refl _ w2)).trans hb5.1))
          have HK5 := Kp.mk h5
          clear hb5 hr5 hd5 h5
          simp only [canon, List.range, List.range.loop, List.foldl]
          refine wpAny_none (by kernel_rfl) ?_ _
          simp only at k6
          obtain ⟨x, e6⟩ := k6
          go_wp2_with fail
          refine bodyPost_ret (res_cell_mid rfl _ _ w.heap.size 135 #[.string su] _ rfl HK5.out Tryz.underlying135 rfl (by kernel_rfl)) rfl ?_
          exact ⟨cfEnd_none HN.out, HB5.out⟩
      | some q =>
        obtain ⟨codec, m⟩ := q
        rw [hr2] at hu
        simp only at hu
        subst hu
        have hm := uvRead_some hr2
        have HR2 := Kp.mk hr2
        have hmn : k + m ≤ n := by have := HR.out.len; have := hm.2.1; rw [List.length_drop] at this; omega
        clear hr2 hm
        obtain ⟨A2, hcut2, hp2⟩ := rd_cut 67 .i64 Tryz.underlying67 A n c (k + m) hmn
        have hi : ((k + m : Nat) : Int) = (k : Int) + (m : Int) := by omega
        rw [hi] at hcut2
        have HF3 := Kp.mk (mhFrom_calls A2 (n - (k + m)) (c - (k + m)) (bs.drop (k + m)) w2 (hp2 _ _ (HR.out.below HBW.out)) (HE.out.mh.below HBW.out) (by omega))
        clear hp2 hi
        go_wp2_with fail
        refine HF3.out.mono ?_
        rintro e w3 ⟨hu, hb⟩
        have HRB2 := Kp.mk (blk_keep HRB.out hb)
        have HBW2 := Kp.mk (HBW.out.trans (hb.mono HBW.out.size))
        clear hb HF3 HRB HBW hcut2
        have HRB := HRB2
        have HBW := HBW2
        clear HRB2 HBW2
        unfold MfEnd at hu
        cases hr3 : mhRead (bs.drop (k + m)) with
        | none =>
          rw [hr3] at hu
          obtain ⟨T1, v1, rfl⟩ := hu
          have HN := Kp.mk (cd_none4 HZ.out HR1.out HR2.out hr3)
          clear hr3
          go_wp2_with fail
          refine wp_region_growR (OneStep w.heap.size (.cells #[.string ⟨#[]⟩] 135 (0, 0)) (.cells #[.string su] 135 (0, 0))) (fun _ => OneStep.refl _ _ _ _) (fun _ _ _ h k => h.trans k) (by kernel_rfl) 7 (by decide) (apart_of (by kernel_rfl)) (by kernel_rfl) (ceR w.heap.size su) (fun _ _ _ _ => True) (fun _ _ _ _ h hb => ceR_keep h hb) ?_ ?_
          · intro j hj ob ho vs w5 hb5 hpre
            have hlt : w.heap.size < w5.heap.size := by have h1 := hb5.1.size; have h2 := (Array.getElem?_eq_some_iff.1 HRB.out).1; have h3 : w3.drew.heap.size = w3.heap.size := rfl; omega
            have HB5 := Kp.mk (HBW.out.trans ((bel_drew (Below.refl _ w3)).trans hb5.1))
            rcases j with _ | _ | _ | _ | _ | _ | _ | j
            · obtain rfl := Option.some.inj ho
              have c9 := (HB5.out.cell (World.block_lt_of_cell? w _ HU0.out)).trans HU0.out
              simp only [canon, List.range, List.range.loop, List.foldl]
              go_simp
              exact ⟨rfl, OneStep.refl _ _ _ _⟩
            · obtain rfl := Option.some.inj ho
              simp only [canon, List.range, List.range.loop, List.foldl]
              go_simp
              exact ⟨⟨_, _, rfl⟩, OneStep.refl _ _ _ _⟩
            · obtain ⟨T, v, e1⟩ := hpre 1 (by decide) (by obtain rfl := Option.some.inj ho; rfl)
              obtain rfl := Option.some.inj ho
              simp only [canon, List.range, List.range.loop, List.foldl]
              go_simp
              exact ⟨⟨_, rfl⟩, OneStep.refl _ _ _ _⟩
            · obtain ⟨x, e2⟩ := hpre 2 (by decide) (by obtain rfl := Option.some.inj ho; rfl)
              obtain rfl := Option.some.inj ho
              simp only [canon, List.range, List.range.loop, List.foldl]
              go_simp
              exact ⟨⟨_, rfl⟩, OneStep.refl _ _ _ _⟩
            · obtain rfl := Option.some.inj ho
              simp only [canon, List.range, List.range.loop, List.foldl]
              go_simp
              exact ⟨rfl, OneStep.refl _ _ _ _⟩
            · have e0 : vs 0 = _ := hpre 0 (by decide) (by obtain rfl := Option.some.inj ho; rfl)
              have hst := store_step (s := su) (hb5.2.2 HRB.out)
              obtain ⟨s0, hblk⟩ := one_of (hb5.2.2 HRB.out)
              have c0 := blk_cell hblk 0
              have f0 := blk_frozen hblk 0
              obtain rfl := Option.some.inj ho
              simp only [canon, List.range, List.range.loop, List.foldl]
              go_simp
              exact ⟨undef, hst.1⟩
            · obtain ⟨x, e3⟩ := hpre 3 (by decide) (by obtain rfl := Option.some.inj ho; rfl)
              obtain rfl := Option.some.inj ho
              simp only [canon, List.range, List.range.loop, List.foldl]
              go_simp
              exact ⟨⟨_, rfl⟩, OneStep.refl _ _ _ _⟩
            · omega
          · intro vs w5 hb5 hr5 hd5
            have e4 : vs 4 = _ := hr5 4 (by omega)
            have h5 := hr5 5 (by omega)
            have k6 := hr5 6 (by omega)
            unfold ceR at h5 k6
            have HB5 := Kp.mk (HBW.out.trans ((bel_drew (Below.refl _ w3)).trans hb5.1))
            have HK5 := Kp.mk h5
            clear hb5 hr5 hd5 h5
            simp only [canon, List.range, List.range.loop, List.foldl]
            refine wpAny_none (by kernel_rfl) ?_ _
            simp only at k6
            obtain ⟨x, e6⟩ := k6
            go_wp2_with fail
            refine bodyPost_ret (res_cell_mid rfl _ _ w.heap.size 135 #[.string su] _ rfl HK5.out Tryz.underlying135 rfl (by kernel_rfl)) rfl ?_
            exact ⟨cfEnd_none HN.out, HB5.out⟩
        | some q =>
          obtain ⟨code, d, N⟩ := q
          rw [hr3] at hu
          obtain ⟨A3, c3, rfl, hp3⟩ := hu
          have HN := Kp.mk (cd_some HZ.out HR1.out HR2.out hr3)
          have hlt := (mhRead_lt hr3).2.1
          rw [List.length_drop] at hlt
          have hNN : k + m + N ≤ n := by have := HR.out.len; omega
          obtain ⟨A4, hcut4, hp4⟩ := rd_lh 67 Tryz.underlying67 A n c (k + m + N) hNN HR.out.cap
          have HP4 := Kp.mk hp4
          have hi : ((k + m + N : Nat) : Int) = (k : Int) + (m : Int) + (N : Int) := by omega
          rw [hi] at hcut4
          have HI := Kp.mk hi
          have HCUT := Kp.mk hcut4
          clear hr3 hp3 hp4 hi hlt hcut4
          go_wp2_with fail
          refine wp_region_growR (OneStep w.heap.size (.cells #[.string ⟨#[]⟩] 135 (0, 0)) (.cells #[.string (strB (bs.take (k + m + N)))] 135 (0, 0))) (fun _ => OneStep.refl _ _ _ _) (fun _ _ _ h k => h.trans k) (by kernel_rfl) 9 (by decide) (apart_of (by kernel_rfl)) (by kernel_rfl) (k20R w.heap.size A A4 n c (k + m + N) ((k : Int) + m + N) (strB (bs.take (k + m + N)))) (fun _ _ _ _ => True) (fun _ _ _ _ h hb => k20R_keep h hb) ?_ ?_
          · intro j hj ob ho vs w5 hb5 hpre
            have HB5 := Kp.mk (HBW.out.trans ((bel_drew (Below.refl _ w3)).trans hb5.1))
            rcases j with _ | _ | _ | _ | _ | _ | _ | _ | _ | j
            · obtain rfl := Option.some.inj ho
              simp only [canon, List.range, List.range.loop, List.foldl]
              go_simp
              exact ⟨rfl, OneStep.refl _ _ _ _⟩
            · obtain rfl := Option.some.inj ho
              simp only [canon, List.range, List.range.loop, List.foldl]
              go_simp
              exact ⟨rfl, OneStep.refl _ _ _ _⟩
            · obtain rfl := Option.some.inj ho
              simp only [canon, List.range, List.range.loop, List.foldl]
              go_simp
              exact ⟨rfl, OneStep.refl _ _ _ _⟩
            · obtain rfl := Option.some.inj ho
              have e1 : vs 1 = _ := hpre 1 (by decide) rfl
              have e2 : vs 2 = _ := hpre 2 (by decide) rfl
              have hc4 := HCUT.out
              simp only [canon, List.range, List.range.loop, List.foldl]
              go_simp
              exact ⟨rfl, OneStep.refl _ _ _ _⟩
            · have e3 : vs 3 = _ := hpre 3 (by decide) (by obtain rfl := Option.some.inj ho; rfl)
              have hcv := rd_string (HP4.out _ _ (HR.out.below HB5.out)) 67 9 Tryz.underlying67 Tryz.underlying9
              obtain rfl := Option.some.inj ho
              simp only [canon, List.range, List.range.loop, List.foldl]
              go_simp
              exact ⟨rfl, OneStep.refl _ _ _ _⟩
            · obtain rfl := Option.some.inj ho
              have e4 : vs 4 = _ := hpre 4 (by decide) rfl
              simp only [canon, List.range, List.range.loop, List.foldl]
              go_simp
              exact ⟨rfl, OneStep.refl _ _ _ _⟩
            · obtain rfl := Option.some.inj ho
              have e0 : vs 0 = _ := hpre 0 (by decide) rfl
              simp only [canon, List.range, List.range.loop, List.foldl]
              go_simp
              exact ⟨rfl, OneStep.refl _ _ _ _⟩
            · have e5 : vs 5 = _ := hpre 5 (by decide) (by obtain rfl := Option.some.inj ho; rfl)
              have hst := store_step (s := strB (bs.take (k + m + N))) (hb5.2.2 HRB.out)
              obtain ⟨s0, hblk⟩ := one_of (hb5.2.2 HRB.out)
              have c0 := blk_cell hblk 0
              have f0 := blk_frozen hblk 0
              obtain rfl := Option.some.inj ho
              simp only [canon, List.range, List.range.loop, List.foldl]
              go_simp
              exact ⟨undef, hst.1⟩
            · obtain rfl := Option.some.inj ho
              simp only [canon, List.range, List.range.loop, List.foldl]
              go_simp
              exact ⟨rfl, OneStep.refl _ _ _ _⟩
            · omega
          · intro vs w5 hb5 hr5 hd5
            have h6 := hr5 6 (by omega)
            have h7 := hr5 7 (by omega)
            have h8 := hr5 8 (by omega)
            unfold k20R at h6 h7 h8
            have HB5 := Kp.mk (HBW.out.trans ((bel_drew (Below.refl _ w3)).trans hb5.1))
            have HK5 := Kp.mk h7
            clear hb5 hr5 hd5 h7
            simp only at h6 h8
            simp only [canon, List.range, List.range.loop, List.foldl]
            refine wpAny_none (by kernel_rfl) ?_ _
            go_wp2_with fail
            refine bodyPost_ret (res_cell_mid rfl _ _ w.heap.size 135 #[.string (strB (bs.take (k + m + N)))] _ rfl HK5.out Tryz.underlying135 rfl (by kernel_rfl)) rfl ?_
            exact ⟨cfEnd_some HN.out HI.out.symm rfl, HB5.out⟩
    · have HN := Kp.mk (cd_none2 HZ.out hr1 hv)
      have q1 : ((ver : Int) == 1) = false := beq_eq_false_iff_ne.2 (by omega)
      clear hr1 hv
      go_wp2_with fail
      refine wp_region_growR (OneStep w.heap.size (.cells #[.string ⟨#[]⟩] 135 (0, 0)) (.cells #[.string su] 135 (0, 0))) (fun _ => OneStep.refl _ _ _ _) (fun _ _ _ h k => h.trans k) (by kernel_rfl) 7 (by decide) (apart_of (by kernel_rfl)) (by kernel_rfl) (ceR w.heap.size su) (fun _ _ _ _ => True) (fun _ _ _ _ h hb => ceR_keep h hb) ?_ ?_
      · intro j hj ob ho vs w5 hb5 hpre
        have hlt : w.heap.size < w5.heap.size := by have h1 := hb5.1.size; have h2 := (Array.getElem?_eq_some_iff.1 HRB.out).1; have h3 : w1.drew.heap.size = w1.heap.size := rfl; omega
        have HB5 := Kp.mk (HBW.out.trans ((bel_drew (Below.refl _ w1)).trans hb5.1))
        rcases j with _ | _ | _ | _ | _ | _ | _ | j
        · obtain rfl := Option.some.inj ho
          have c9 := (HB5.out.cell (World.block_lt_of_cell? w _ HU0.out)).trans HU0.out
          simp only [canon, List.range, List.range.loop, List.foldl]
          go_simp
          exact ⟨rfl, OneStep.refl _ _ _ _⟩
        · obtain rfl := Option.some.inj ho
          simp only [canon, List.range, List.range.loop, List.foldl]
          go_simp
          refine (errNew_calls _ _).mono ?_
          rintro e6 w6 ⟨⟨T, v, rfl⟩, hb6⟩
          exact ⟨⟨T, v, rfl⟩, OneStep.of_below hb6 hlt⟩
        · obtain ⟨T, v, e1⟩ := hpre 1 (by decide) (by obtain rfl := Option.some.inj ho; rfl)
          obtain rfl := Option.some.inj ho
          simp only [canon, List.range, List.range.loop, List.foldl]
          go_simp
          exact ⟨⟨_, rfl⟩, OneStep.refl _ _ _ _⟩
        · obtain ⟨x, e2⟩ := hpre 2 (by decide) (by obtain rfl := Option.some.inj ho; rfl)
          obtain rfl := Option.some.inj ho
          simp only [canon, List.range, List.range.loop, List.foldl]
          go_simp
          exact ⟨⟨_, rfl⟩, OneStep.refl _ _ _ _⟩
        · obtain rfl := Option.some.inj ho
          simp only [canon, List.range, List.range.loop, List.foldl]
          go_simp
          exact ⟨rfl, OneStep.refl _ _ _ _⟩
        · have e0 : vs 0 = _ := hpre 0 (by decide) (by obtain rfl := Option.some.inj ho; rfl)
          have hst := store_step (s := su) (hb5.2.2 HRB.out)
          obtain ⟨s0, hblk⟩ := one_of (hb5.2.2 HRB.out)
          have c0 := blk_cell hblk 0
          have f0 := blk_frozen hblk 0
          obtain rfl := Option.some.inj ho
          simp only [canon, List.range, List.range.loop, List.foldl]
          go_simp
          exact ⟨undef, hst.1⟩
        · obtain ⟨x, e3⟩ := hpre 3 (by decide) (by obtain rfl := Option.some.inj ho; rfl)
          obtain rfl := Option.some.inj ho
          simp only [canon, List.range, List.range.loop, List.foldl]
          go_simp
          exact ⟨⟨_, rfl⟩, OneStep.refl _ _ _ _⟩
        · omega
      · intro vs w5 hb5 hr5 hd5
        have e4 : vs 4 = _ := hr5 4 (by omega)
        have h5 := hr5 5 (by omega)
        have k6 := hr5 6 (by omega)
        unfold ceR at h5 k6
        have HB5 := Kp.mk (HBW.out.trans ((bel_drew (Below.refl _ w1)).trans hb5.1))
        have HK5 := Kp.mk h5
        clear hb5 hr5 hd5 h5
        simp only [canon, List.range, List.range.loop, List.foldl]
        refine wpAny_none (by kernel_rfl) ?_ _
        simp only at k6
        obtain ⟨x, e6⟩ := k6
        go_wp2_with fail
        refine bodyPost_ret (res_cell_mid rfl _ _ w.heap.size 135 #[.string su] _ rfl HK5.out Tryz.underlying135 rfl (by kernel_rfl)) rfl ?_
        exact ⟨cfEnd_none HN.out, HB5.out⟩

end Go.Proofs.YtkcpgcaccgahaaaGreatDoor
