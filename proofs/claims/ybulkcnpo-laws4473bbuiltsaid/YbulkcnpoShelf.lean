/-
  DERIVED: THE SHELF's CONTRACTS AT THIS DUMP, IN PLAIN WORDS (tools/lay-plain.mjs out of 'YbulkcnpoShelf.lean', which tools/lay-shelf.mjs wrote): THE SAME DECLARATIONS UNDER THE SAME NAMES: 'import', 'namespace', 'open', 'def', 'theorem' AND NOTHING ELSE: no command of the shelf's: FOR A HAND-IN. Each laying: the table of numbers ('.._ren') and one theorem, a field a fact of the dump's own or the kernel's comparison; each contract: ONE APPLICATION.
-/
import Derived.Ground.MnProg
import Derived.Shelf.Bin.LEUint64
import Derived.Shelf.Bits.Mul64
import Derived.Test.YbulkcnpoProg
namespace Go.Proofs
open Go.Shelf
def Yba.laysBin33_ren : Go.Shelf.Ren := ⟨fun | 33 => 8 | n => n, fun | 25 => 33 | 22 => 35 | 33 => 23 | 0 => 0 | 5 => 5 | 45 => 37 | n => n, fun | n => n⟩
theorem Yba.laysBin33 : Go.Proofs.LaysBin.n33 Yba.prog Yba.laysBin33_ren := {
  mixed := by kernel_rfl
  f33 := Yba.func8.trans (congrArg some (by kernel_rfl))
  t0 := Yba.underlying0
  a0 := Yba.isAgg0
  z0 := Yba.sizeOf0
  v0 := Yba.zeroValue0
  i0 := by kernel_rfl
  t5 := Yba.underlying5
  a5 := Yba.isAgg5
  z5 := Yba.sizeOf5
  v5 := Yba.zeroValue5
  i5 := by kernel_rfl
  t22 := Yba.underlying35
  a22 := Yba.isAgg35
  z22 := Yba.sizeOf35
  v22 := Yba.zeroValue35
  i22 := by kernel_rfl
  t25 := Yba.underlying33
  a25 := Yba.isAgg33
  z25 := Yba.sizeOf33
  v25 := Yba.zeroValue33
  i25 := by kernel_rfl
  t33 := Yba.underlying23
  a33 := Yba.isAgg23
  z33 := Yba.sizeOf23
  v33 := Yba.zeroValue23
  i33 := by kernel_rfl
  t45 := Yba.underlying37
  a45 := Yba.isAgg37
  z45 := Yba.sizeOf37
  v45 := Yba.zeroValue37
  i45 := by kernel_rfl }
open Go.RowKit in
/-- binary.LittleEndian.Uint64: "Uint64 returns the uint64 representation of b[0:8].": THE NUMBER THAT THE FIRST 8 BYTES SPELL, the least byte first ('Lib.leNat'). Of what was there nothing has turned (the receiver, an empty struct, is laid in a new block without cells; the statement's order is drawn). (LAID: no walk: one application.) -/
theorem Yba.binary_LE_Uint64 (g o n c : Nat) (b0 b1 b2 b3 b4 b5 b6 b7 : UInt8) (w : World) (hn : 8 ≤ n) (c0 : w.cell? ⟨g, o, none⟩ = some (.int .u8 b0.toNat)) (c1 : w.cell? ⟨g, o + 1, none⟩ = some (.int .u8 b1.toNat)) (c2 : w.cell? ⟨g, o + 2, none⟩ = some (.int .u8 b2.toNat)) (c3 : w.cell? ⟨g, o + 3, none⟩ = some (.int .u8 b3.toNat)) (c4 : w.cell? ⟨g, o + 4, none⟩ = some (.int .u8 b4.toNat)) (c5 : w.cell? ⟨g, o + 5, none⟩ = some (.int .u8 b5.toNat)) (c6 : w.cell? ⟨g, o + 6, none⟩ = some (.int .u8 b6.toNat)) (c7 : w.cell? ⟨g, o + 7, none⟩ = some (.int .u8 b7.toNat)) :
    Calls Yba.prog 8 #[.agg #[], .slice (some ⟨g, o, none⟩) n c] w fun e w' => e = .returned (.int .u64 (Lib.leNat [b0, b1, b2, b3, b4, b5, b6, b7])) ∧ Below w.heap.size w w' := Any.binary_LE_Uint64 Yba.laysBin33 g o n c b0 b1 b2 b3 b4 b5 b6 b7 w hn c0 c1 c2 c3 c4 c5 c6 c7
def Yba.lays264_ren : Go.Shelf.Ren := ⟨fun | 264 => 10 | n => n, fun | 53 => 23 | 46 => 37 | n => n, fun | n => n⟩
theorem Yba.lays264 : Go.Proofs.Lays.n264 Yba.prog Yba.lays264_ren := {
  mixed := by kernel_rfl
  f264 := Yba.func10.trans (congrArg some (by kernel_rfl))
  t46 := Yba.underlying37
  a46 := Yba.isAgg37
  z46 := Yba.sizeOf37
  v46 := Yba.zeroValue37
  t53 := Yba.underlying23
  a53 := Yba.isAgg23
  z53 := Yba.sizeOf23
  v53 := Yba.zeroValue23 }
open Go.RowKit Go.Lib in
theorem Yba.bits_Mul64 (x y : Nat) (hx : x < 18446744073709551616) (hy : y < 18446744073709551616) (w : World) :
    Calls Yba.prog 10 #[.int .u64 x, .int .u64 y] w fun e w' => e = .returned (.tuple #[.int .u64 ((x * y / 18446744073709551616 : Nat) : Int), .int .u64 ((x * y % 18446744073709551616 : Nat) : Int)]) ∧ w' = w := Any.bits_Mul64 Yba.lays264 x y hx hy w
end Go.Proofs
