/- The walk of a tidy identifier's Hash. -/
import Derived.Test.YtnhnkfdhkifahaaGreatDoorTidy
namespace Go.Proofs.YtnhnkfdhkifahaaGreatDoor
open Go.RowKit

/-- A tidy identifier's Hash is its multihash. -/
theorem tHash_calls (v codec code : Nat) (s : ByteArray) (w : World) (h : Tidy v codec code s) (hs : s.size ≤ 1073741824) (he : MhErrs w) :
    Calls Tryz.prog 61 #[.agg #[.string (strB (cidB v codec code s))]] w fun e w' => (∃ A n c, e = .returned (.slice A n c) ∧ RdB w' A n c (mhBytes code (bl s))) ∧ Below w.heap.size w w' := by
  have hl := bl_length s
  rcases h with ⟨rfl, rfl, rfl, h⟩ | ⟨rfl, h1, h2⟩
  · have hc : cidB 0 112 18 s = 18 :: 32 :: bl s := rfl
    have hsz : (strB (cidB 0 112 18 s)).size = 34 := by rw [strB_size, hc]; simp; omega
    have hb : bl (strB (cidB 0 112 18 s)) = mhBytes 18 (bl s) := by rw [bl_strB, hc, cid0_bytes (by omega)]
    have hb' : bl (strB (cidB 0 112 18 s)) = 18 :: 32 :: bl s := by rw [bl_strB, hc]
    refine (cidHash0_calls _ w hsz (by rw [hb']; rfl) (by rw [hb']; rfl)).mono ?_
    rintro e w1 ⟨⟨A, c, rfl, hr⟩, hbel⟩
    rw [hb] at hr
    exact ⟨⟨_, _, _, rfl, hr⟩, hbel⟩
  · have hc : cidB 1 codec code s = cdBytes codec code (bl s) := rfl
    have hT : Tidy 1 codec code s := .inr ⟨rfl, h1, h2⟩
    have hS : CidS (strB (cidB 1 codec code s)) codec code (bl s) (Lib.uvarint codec).length (Lib.uvarint code).length :=
      ⟨by rw [bl_strB, hc], by rw [strB_size]; have := (hT.len (by omega)).1; omega, rfl, rfl, h1, h2⟩
    refine (cidHash1_calls _ codec code (bl s) _ _ w hS he.uv).mono ?_
    rintro e w1 ⟨⟨A, c, rfl, hr⟩, hbel⟩
    rw [hS.d2] at hr
    exact ⟨⟨_, _, _, rfl, hr⟩, hbel⟩

end Go.Proofs.YtnhnkfdhkifahaaGreatDoor
