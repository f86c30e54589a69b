/-
  Written by the kit's tools lay-shelf.mjs and lay-plain.mjs for this program: the shelf's contracts of BigEndian.Uint32 and BigEndian.AppendUint32 at this dump, in plain words.
-/
import Derived.Ground.MnProg
import Derived.Shelf.Bin.BEUint32
import Derived.Shelf.Bin.BEAppendUint32
import Derived.Test.Qxb6614523aDoorProg
namespace Go.Proofs
open Go.Shelf
def Tryd.laysBin39_ren : Go.Shelf.Ren := ⟨fun | 39 => 11 | n => n, fun | 37 => 45 | 22 => 23 | 29 => 22 | 0 => 0 | 5 => 5 | 45 => 48 | n => n, fun | n => n⟩
theorem Tryd.laysBin39 : Go.Proofs.LaysBin.n39 Tryd.prog Tryd.laysBin39_ren := {
  mixed := by kernel_rfl
  f39 := Tryd.func11.trans (congrArg some (by kernel_rfl))
  t0 := Tryd.underlying0
  a0 := Tryd.isAgg0
  z0 := Tryd.sizeOf0
  v0 := Tryd.zeroValue0
  i0 := by kernel_rfl
  t5 := Tryd.underlying5
  a5 := Tryd.isAgg5
  z5 := Tryd.sizeOf5
  v5 := Tryd.zeroValue5
  i5 := by kernel_rfl
  t22 := Tryd.underlying23
  a22 := Tryd.isAgg23
  z22 := Tryd.sizeOf23
  v22 := Tryd.zeroValue23
  i22 := by kernel_rfl
  t29 := Tryd.underlying22
  a29 := Tryd.isAgg22
  z29 := Tryd.sizeOf22
  v29 := Tryd.zeroValue22
  i29 := by kernel_rfl
  t37 := Tryd.underlying45
  a37 := Tryd.isAgg45
  z37 := Tryd.sizeOf45
  v37 := Tryd.zeroValue45
  i37 := by kernel_rfl
  t45 := Tryd.underlying48
  a45 := Tryd.isAgg48
  z45 := Tryd.sizeOf48
  v45 := Tryd.zeroValue48
  i45 := by kernel_rfl }
open Go.RowKit in
theorem Tryd.binary_BE_Uint32 (g o n c : Nat) (b0 b1 b2 b3 : UInt8) (w : World) (hn : 4 ≤ n) (c0 : w.cell? ⟨g, o, none⟩ = some (.int .u8 b0.toNat)) (c1 : w.cell? ⟨g, o + 1, none⟩ = some (.int .u8 b1.toNat)) (c2 : w.cell? ⟨g, o + 2, none⟩ = some (.int .u8 b2.toNat)) (c3 : w.cell? ⟨g, o + 3, none⟩ = some (.int .u8 b3.toNat)) :
    Calls Tryd.prog 11 #[.agg #[], .slice (some ⟨g, o, none⟩) n c] w fun e w' => e = .returned (.int .u32 (Lib.beNat [b0, b1, b2, b3])) ∧ Below w.heap.size w w' := Any.binary_BE_Uint32 Tryd.laysBin39 g o n c b0 b1 b2 b3 w hn c0 c1 c2 c3
def Tryd.laysBin41_ren : Go.Shelf.Ren := ⟨fun | 41 => 12 | n => n, fun | 37 => 45 | 22 => 23 | 29 => 22 | 0 => 0 | 45 => 48 | 5 => 5 | n => n, fun | n => n⟩
theorem Tryd.laysBin41 : Go.Proofs.LaysBin.n41 Tryd.prog Tryd.laysBin41_ren := {
  mixed := by kernel_rfl
  f41 := Tryd.func12.trans (congrArg some (by kernel_rfl))
  t0 := Tryd.underlying0
  a0 := Tryd.isAgg0
  z0 := Tryd.sizeOf0
  v0 := Tryd.zeroValue0
  i0 := by kernel_rfl
  t5 := Tryd.underlying5
  a5 := Tryd.isAgg5
  z5 := Tryd.sizeOf5
  v5 := Tryd.zeroValue5
  i5 := by kernel_rfl
  t22 := Tryd.underlying23
  a22 := Tryd.isAgg23
  z22 := Tryd.sizeOf23
  v22 := Tryd.zeroValue23
  i22 := by kernel_rfl
  t29 := Tryd.underlying22
  a29 := Tryd.isAgg22
  z29 := Tryd.sizeOf22
  v29 := Tryd.zeroValue22
  i29 := by kernel_rfl
  t37 := Tryd.underlying45
  a37 := Tryd.isAgg45
  z37 := Tryd.sizeOf45
  v37 := Tryd.zeroValue45
  i37 := by kernel_rfl
  t45 := Tryd.underlying48
  a45 := Tryd.isAgg48
  z45 := Tryd.sizeOf48
  v45 := Tryd.zeroValue48
  i45 := by kernel_rfl }
open Go.RowKit in
theorem Tryd.binary_BE_AppendUint32 (B n v : Nat) (hv : v < 4294967296) (sv : Value) (xs : List Value) (w : World) (hown : w.ownsRow B 5 1 sv n xs) (hBw : B ≤ w.heap.size) (hlim : n + 4 ≤ 140737488355328) :
    Calls Tryd.prog 12 #[.agg #[], sv, .int .u32 v] w fun e w' => ∃ v', e = .returned v' ∧ w'.ownsRow B 5 1 v' (n + 4) (xs ++ Lib.byteCells (Lib.beBytes 4 v)) ∧ Below B w w' := Any.binary_BE_AppendUint32 Tryd.laysBin41 B n v hv sv xs w hown hBw hlim
end Go.Proofs
