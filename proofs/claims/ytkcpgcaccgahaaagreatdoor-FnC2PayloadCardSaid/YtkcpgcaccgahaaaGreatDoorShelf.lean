/-
  DERIVED: THE SHELF's CONTRACTS AT THIS DUMP, IN PLAIN WORDS (tools/lay-plain.mjs out of 'TryzShelf.lean', which tools/lay-shelf.mjs wrote): THE SAME DECLARATIONS UNDER THE SAME NAMES: 'import', 'namespace', 'open', 'def', 'theorem' AND NOTHING ELSE: no command of the shelf's: FOR A HAND-IN. Each laying: the table of numbers ('.._ren') and one theorem, a field a fact of the dump's own or the kernel's comparison; each contract: ONE APPLICATION.
-/
import Derived.Shelf.Strconv.Itoa0
import Derived.Ground.MnProg
import Derived.Shelf.Bin.LEUint64
import Derived.Test.YtkcpgcaccgahaaaGreatDoorProg
namespace Go.Proofs
open Go.Shelf
def Tryz.lays129_ren : Go.Shelf.Ren := ⟨fun | 129 => 145 | n => n, fun | 53 => 22 | 3 => 3 | 4 => 4 | 46 => 114 | 5 => 5 | 9 => 9 | n => n, fun | n => n⟩
theorem Tryz.lays129 : Go.Proofs.Lays.n129 Tryz.prog Tryz.lays129_ren := {
  mixed := by kernel_rfl
  f129 := Tryz.func145.trans (congrArg some (by kernel_rfl))
  t3 := Tryz.underlying3
  a3 := Tryz.isAgg3
  z3 := Tryz.sizeOf3
  v3 := Tryz.zeroValue3
  t4 := Tryz.underlying4
  a4 := Tryz.isAgg4
  z4 := Tryz.sizeOf4
  v4 := Tryz.zeroValue4
  t5 := Tryz.underlying5
  a5 := Tryz.isAgg5
  z5 := Tryz.sizeOf5
  v5 := Tryz.zeroValue5
  t9 := Tryz.underlying9
  a9 := Tryz.isAgg9
  z9 := Tryz.sizeOf9
  v9 := Tryz.zeroValue9
  t46 := Tryz.underlying114
  a46 := Tryz.isAgg114
  z46 := Tryz.sizeOf114
  v46 := Tryz.zeroValue114
  t53 := Tryz.underlying22
  a53 := Tryz.isAgg22
  z53 := Tryz.sizeOf22
  v53 := Tryz.zeroValue22 }
/-- bits.Len64: "Len64 returns the minimum number of bits required to represent x; the result is 0 for x == 0.": IT RETURNS 'Lib.bitLen x'; the world is as it was. ('h0', 'h1': x is a uint64.) (LAID: no walk: one application.) -/
theorem Tryz.bits_Len64 (x : Int) (w : World) (h0 : 0 ≤ x) (h1 : x ≤ 18446744073709551615) :
    Calls Tryz.prog 145 #[.int .u64 x] w fun e w' => e = .returned (.int .i64 (Lib.bitLen x.toNat)) ∧ w' = w := Any.bits_Len64 Tryz.lays129 x w h0 h1
def Tryz.laysBin33_ren : Go.Shelf.Ren := ⟨fun | 33 => 118 | n => n, fun | 25 => 220 | 22 => 67 | 33 => 22 | 0 => 0 | 5 => 5 | 45 => 114 | n => n, fun | n => n⟩
theorem Tryz.laysBin33 : Go.Proofs.LaysBin.n33 Tryz.prog Tryz.laysBin33_ren := {
  mixed := by kernel_rfl
  f33 := Tryz.func118.trans (congrArg some (by kernel_rfl))
  t0 := Tryz.underlying0
  a0 := Tryz.isAgg0
  z0 := Tryz.sizeOf0
  v0 := Tryz.zeroValue0
  i0 := by kernel_rfl
  t5 := Tryz.underlying5
  a5 := Tryz.isAgg5
  z5 := Tryz.sizeOf5
  v5 := Tryz.zeroValue5
  i5 := by kernel_rfl
  t22 := Tryz.underlying67
  a22 := Tryz.isAgg67
  z22 := Tryz.sizeOf67
  v22 := Tryz.zeroValue67
  i22 := by kernel_rfl
  t25 := Tryz.underlying220
  a25 := Tryz.isAgg220
  z25 := Tryz.sizeOf220
  v25 := Tryz.zeroValue220
  i25 := by kernel_rfl
  t33 := Tryz.underlying22
  a33 := Tryz.isAgg22
  z33 := Tryz.sizeOf22
  v33 := Tryz.zeroValue22
  i33 := by kernel_rfl
  t45 := Tryz.underlying114
  a45 := Tryz.isAgg114
  z45 := Tryz.sizeOf114
  v45 := Tryz.zeroValue114
  i45 := by kernel_rfl }
open Go.RowKit in
/-- binary.LittleEndian.Uint64: "Uint64 returns the uint64 representation of b[0:8].": THE NUMBER THAT THE FIRST 8 BYTES SPELL, the least byte first ('Lib.leNat'). Of what was there nothing has turned (the receiver, an empty struct, is laid in a new block without cells; the statement's order is drawn). (LAID: no walk: one application.) -/
theorem Tryz.binary_LE_Uint64 (g o n c : Nat) (b0 b1 b2 b3 b4 b5 b6 b7 : UInt8) (w : World) (hn : 8 ≤ n) (c0 : w.cell? ⟨g, o, none⟩ = some (.int .u8 b0.toNat)) (c1 : w.cell? ⟨g, o + 1, none⟩ = some (.int .u8 b1.toNat)) (c2 : w.cell? ⟨g, o + 2, none⟩ = some (.int .u8 b2.toNat)) (c3 : w.cell? ⟨g, o + 3, none⟩ = some (.int .u8 b3.toNat)) (c4 : w.cell? ⟨g, o + 4, none⟩ = some (.int .u8 b4.toNat)) (c5 : w.cell? ⟨g, o + 5, none⟩ = some (.int .u8 b5.toNat)) (c6 : w.cell? ⟨g, o + 6, none⟩ = some (.int .u8 b6.toNat)) (c7 : w.cell? ⟨g, o + 7, none⟩ = some (.int .u8 b7.toNat)) :
    Calls Tryz.prog 118 #[.agg #[], .slice (some ⟨g, o, none⟩) n c] w fun e w' => e = .returned (.int .u64 (Lib.leNat [b0, b1, b2, b3, b4, b5, b6, b7])) ∧ Below w.heap.size w w' := Any.binary_LE_Uint64 Tryz.laysBin33 g o n c b0 b1 b2 b3 b4 b5 b6 b7 w hn c0 c1 c2 c3 c4 c5 c6 c7
end Go.Proofs
