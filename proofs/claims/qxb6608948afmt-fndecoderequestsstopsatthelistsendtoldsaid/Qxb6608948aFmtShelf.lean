/-
  THE LAYING OF TWO CONTRACTS OF encoding/binary AT THIS DUMP (written by the kit's lay-shelf.mjs and lay-plain.mjs).
-/
import Derived.Shelf.Bin.BEUint32
import Derived.Shelf.Bin.BEUint64
import Derived.Test.Qxb6608948aFmtProg
namespace Go.Proofs
open Go.Shelf
def Tryf.laysBin39_ren : Go.Shelf.Ren := ⟨fun | 39 => 18 | n => n, fun | 37 => 50 | 22 => 22 | 29 => 25 | 0 => 0 | 5 => 5 | 45 => 40 | n => n, fun | n => n⟩
theorem Tryf.laysBin39 : Go.Proofs.LaysBin.n39 Tryf.prog Tryf.laysBin39_ren := {
  mixed := by kernel_rfl
  f39 := Tryf.func18.trans (congrArg some (by kernel_rfl))
  t0 := Tryf.underlying0
  a0 := Tryf.isAgg0
  z0 := Tryf.sizeOf0
  v0 := Tryf.zeroValue0
  i0 := by kernel_rfl
  t5 := Tryf.underlying5
  a5 := Tryf.isAgg5
  z5 := Tryf.sizeOf5
  v5 := Tryf.zeroValue5
  i5 := by kernel_rfl
  t22 := Tryf.underlying22
  a22 := Tryf.isAgg22
  z22 := Tryf.sizeOf22
  v22 := Tryf.zeroValue22
  i22 := by kernel_rfl
  t29 := Tryf.underlying25
  a29 := Tryf.isAgg25
  z29 := Tryf.sizeOf25
  v29 := Tryf.zeroValue25
  i29 := by kernel_rfl
  t37 := Tryf.underlying50
  a37 := Tryf.isAgg50
  z37 := Tryf.sizeOf50
  v37 := Tryf.zeroValue50
  i37 := by kernel_rfl
  t45 := Tryf.underlying40
  a45 := Tryf.isAgg40
  z45 := Tryf.sizeOf40
  v45 := Tryf.zeroValue40
  i45 := by kernel_rfl }
open Go.RowKit in
/-- binary.BigEndian.Uint32: "Uint32 returns the uint32 representation of b[0:4].": THE NUMBER THAT THE FIRST 4 BYTES SPELL, the greatest byte first ('Lib.beNat'). Of what was there nothing has turned (the receiver, an empty struct, is laid in a new block without cells; the statement's order is drawn). (LAID: no walk: one application.) -/
theorem Tryf.binary_BE_Uint32 (g o n c : Nat) (b0 b1 b2 b3 : UInt8) (w : World) (hn : 4 ≤ n) (c0 : w.cell? ⟨g, o, none⟩ = some (.int .u8 b0.toNat)) (c1 : w.cell? ⟨g, o + 1, none⟩ = some (.int .u8 b1.toNat)) (c2 : w.cell? ⟨g, o + 2, none⟩ = some (.int .u8 b2.toNat)) (c3 : w.cell? ⟨g, o + 3, none⟩ = some (.int .u8 b3.toNat)) :
    Calls Tryf.prog 18 #[.agg #[], .slice (some ⟨g, o, none⟩) n c] w fun e w' => e = .returned (.int .u32 (Lib.beNat [b0, b1, b2, b3])) ∧ Below w.heap.size w w' := Any.binary_BE_Uint32 Tryf.laysBin39 g o n c b0 b1 b2 b3 w hn c0 c1 c2 c3
def Tryf.laysBin42_ren : Go.Shelf.Ren := ⟨fun | 42 => 24 | n => n, fun | 37 => 50 | 22 => 22 | 33 => 27 | 0 => 0 | 5 => 5 | 45 => 40 | n => n, fun | n => n⟩
theorem Tryf.laysBin42 : Go.Proofs.LaysBin.n42 Tryf.prog Tryf.laysBin42_ren := {
  mixed := by kernel_rfl
  f42 := Tryf.func24.trans (congrArg some (by kernel_rfl))
  t0 := Tryf.underlying0
  a0 := Tryf.isAgg0
  z0 := Tryf.sizeOf0
  v0 := Tryf.zeroValue0
  i0 := by kernel_rfl
  t5 := Tryf.underlying5
  a5 := Tryf.isAgg5
  z5 := Tryf.sizeOf5
  v5 := Tryf.zeroValue5
  i5 := by kernel_rfl
  t22 := Tryf.underlying22
  a22 := Tryf.isAgg22
  z22 := Tryf.sizeOf22
  v22 := Tryf.zeroValue22
  i22 := by kernel_rfl
  t33 := Tryf.underlying27
  a33 := Tryf.isAgg27
  z33 := Tryf.sizeOf27
  v33 := Tryf.zeroValue27
  i33 := by kernel_rfl
  t37 := Tryf.underlying50
  a37 := Tryf.isAgg50
  z37 := Tryf.sizeOf50
  v37 := Tryf.zeroValue50
  i37 := by kernel_rfl
  t45 := Tryf.underlying40
  a45 := Tryf.isAgg40
  z45 := Tryf.sizeOf40
  v45 := Tryf.zeroValue40
  i45 := by kernel_rfl }
open Go.RowKit in
/-- binary.BigEndian.Uint64: "Uint64 returns the uint64 representation of b[0:8].": THE NUMBER THAT THE FIRST 8 BYTES SPELL, the greatest byte first ('Lib.beNat'). Of what was there nothing has turned (the receiver, an empty struct, is laid in a new block without cells; the statement's order is drawn). (LAID: no walk: one application.) -/
theorem Tryf.binary_BE_Uint64 (g o n c : Nat) (b0 b1 b2 b3 b4 b5 b6 b7 : UInt8) (w : World) (hn : 8 ≤ n) (c0 : w.cell? ⟨g, o, none⟩ = some (.int .u8 b0.toNat)) (c1 : w.cell? ⟨g, o + 1, none⟩ = some (.int .u8 b1.toNat)) (c2 : w.cell? ⟨g, o + 2, none⟩ = some (.int .u8 b2.toNat)) (c3 : w.cell? ⟨g, o + 3, none⟩ = some (.int .u8 b3.toNat)) (c4 : w.cell? ⟨g, o + 4, none⟩ = some (.int .u8 b4.toNat)) (c5 : w.cell? ⟨g, o + 5, none⟩ = some (.int .u8 b5.toNat)) (c6 : w.cell? ⟨g, o + 6, none⟩ = some (.int .u8 b6.toNat)) (c7 : w.cell? ⟨g, o + 7, none⟩ = some (.int .u8 b7.toNat)) :
    Calls Tryf.prog 24 #[.agg #[], .slice (some ⟨g, o, none⟩) n c] w fun e w' => e = .returned (.int .u64 (Lib.beNat [b0, b1, b2, b3, b4, b5, b6, b7])) ∧ Below w.heap.size w w' := Any.binary_BE_Uint64 Tryf.laysBin42 g o n c b0 b1 b2 b3 b4 b5 b6 b7 w hn c0 c1 c2 c3 c4 c5 c6 c7
end Go.Proofs
