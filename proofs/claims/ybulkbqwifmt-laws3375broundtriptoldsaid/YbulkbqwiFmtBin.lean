/-
  DERIVED: the shelf's contract of binary.LittleEndian.Uint64 at this dump, in plain words (laid by the kit's lay-shelf and lay-plain).
-/
import Derived.Ground.MnProg
import Derived.Shelf.Bin.LEUint64
import Derived.Test.YbulkbqwiFmtProg
namespace Go.Proofs
open Go.Shelf
def Ybaf.laysBin33_ren : Go.Shelf.Ren := ⟨fun | 33 => 42 | n => n, fun | 25 => 72 | 22 => 22 | 33 => 25 | 0 => 0 | 5 => 5 | 45 => 61 | n => n, fun | n => n⟩
theorem Ybaf.laysBin33 : Go.Proofs.LaysBin.n33 Ybaf.prog Ybaf.laysBin33_ren := {
  mixed := by kernel_rfl
  f33 := Ybaf.func42.trans (congrArg some (by kernel_rfl))
  t0 := Ybaf.underlying0
  a0 := Ybaf.isAgg0
  z0 := Ybaf.sizeOf0
  v0 := Ybaf.zeroValue0
  i0 := by kernel_rfl
  t5 := Ybaf.underlying5
  a5 := Ybaf.isAgg5
  z5 := Ybaf.sizeOf5
  v5 := Ybaf.zeroValue5
  i5 := by kernel_rfl
  t22 := Ybaf.underlying22
  a22 := Ybaf.isAgg22
  z22 := Ybaf.sizeOf22
  v22 := Ybaf.zeroValue22
  i22 := by kernel_rfl
  t25 := Ybaf.underlying72
  a25 := Ybaf.isAgg72
  z25 := Ybaf.sizeOf72
  v25 := Ybaf.zeroValue72
  i25 := by kernel_rfl
  t33 := Ybaf.underlying25
  a33 := Ybaf.isAgg25
  z33 := Ybaf.sizeOf25
  v33 := Ybaf.zeroValue25
  i33 := by kernel_rfl
  t45 := Ybaf.underlying61
  a45 := Ybaf.isAgg61
  z45 := Ybaf.sizeOf61
  v45 := Ybaf.zeroValue61
  i45 := by kernel_rfl }
open Go.RowKit in
/-- binary.LittleEndian.Uint64: "Uint64 returns the uint64 representation of b[0:8].": THE NUMBER THAT THE FIRST 8 BYTES SPELL, the least byte first ('Lib.leNat'). Of what was there nothing has turned (the receiver, an empty struct, is laid in a new block without cells; the statement's order is drawn). (LAID: no walk: one application.) -/
theorem Ybaf.binary_LE_Uint64 (g o n c : Nat) (b0 b1 b2 b3 b4 b5 b6 b7 : UInt8) (w : World) (hn : 8 ≤ n) (c0 : w.cell? ⟨g, o, none⟩ = some (.int .u8 b0.toNat)) (c1 : w.cell? ⟨g, o + 1, none⟩ = some (.int .u8 b1.toNat)) (c2 : w.cell? ⟨g, o + 2, none⟩ = some (.int .u8 b2.toNat)) (c3 : w.cell? ⟨g, o + 3, none⟩ = some (.int .u8 b3.toNat)) (c4 : w.cell? ⟨g, o + 4, none⟩ = some (.int .u8 b4.toNat)) (c5 : w.cell? ⟨g, o + 5, none⟩ = some (.int .u8 b5.toNat)) (c6 : w.cell? ⟨g, o + 6, none⟩ = some (.int .u8 b6.toNat)) (c7 : w.cell? ⟨g, o + 7, none⟩ = some (.int .u8 b7.toNat)) :
    Calls Ybaf.prog 42 #[.agg #[], .slice (some ⟨g, o, none⟩) n c] w fun e w' => e = .returned (.int .u64 (Lib.leNat [b0, b1, b2, b3, b4, b5, b6, b7])) ∧ Below w.heap.size w w' := Any.binary_LE_Uint64 Ybaf.laysBin33 g o n c b0 b1 b2 b3 b4 b5 b6 b7 w hn c0 c1 c2 c3 c4 c5 c6 c7
end Go.Proofs
