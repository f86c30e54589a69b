/-
  Written by the kit's tools lay-shelf.mjs and lay-plain.mjs for this program, cut down to what is used: the shelf's contracts of strings.Join and bytes.HasPrefix at this dump, in plain words.
-/
import Derived.Shelf.Strings.OnBuilder
import Derived.Shelf.Bytes.SlSmallAll
import Derived.Test.Qxb6614843aProg
namespace Go.Proofs
open Go.Shelf
def Try.lays156_ren : Go.Shelf.Ren := ⟨fun | 156 => 36 | 165 => 39 | 166 => 40 | 169 => 41 | 240 => 42 | 241 => 43 | 276 => 44 | 277 => 45 | n => n, fun | 31 => 22 | 9 => 9 | 3 => 3 | 4 => 4 | 0 => 0 | 20 => 20 | 72 => 71 | 76 => 75 | 70 => 69 | 37 => 27 | 75 => 74 | 127 => 78 | 164 => 79 | 5 => 5 | 80 => 61 | n => n, fun | n => n⟩
theorem Try.lays156 : Go.Proofs.Lays.n156 Try.prog Try.lays156_ren := {
  mixed := by kernel_rfl
  f156 := Try.func36.trans (congrArg some (by kernel_rfl))
  f165 := Try.func39.trans (congrArg some (by kernel_rfl))
  f166 := Try.func40.trans (congrArg some (by kernel_rfl))
  f169 := Try.func41.trans (congrArg some (by kernel_rfl))
  f240 := Try.func42.trans (congrArg some (by kernel_rfl))
  f241 := Try.func43.trans (congrArg some (by kernel_rfl))
  f276 := Try.func44.trans (congrArg some (by kernel_rfl))
  f277 := Try.func45.trans (congrArg some (by kernel_rfl))
  t0 := Try.underlying0
  a0 := Try.isAgg0
  z0 := Try.sizeOf0
  v0 := Try.zeroValue0
  t3 := Try.underlying3
  a3 := Try.isAgg3
  z3 := Try.sizeOf3
  v3 := Try.zeroValue3
  t4 := Try.underlying4
  a4 := Try.isAgg4
  z4 := Try.sizeOf4
  v4 := Try.zeroValue4
  t9 := Try.underlying9
  a9 := Try.isAgg9
  z9 := Try.sizeOf9
  v9 := Try.zeroValue9
  t20 := Try.underlying20
  a20 := Try.isAgg20
  z20 := Try.sizeOf20
  v20 := Try.zeroValue20
  t31 := Try.underlying22
  a31 := Try.isAgg22
  z31 := Try.sizeOf22
  v31 := Try.zeroValue22
  t37 := Try.underlying27
  a37 := Try.isAgg27
  z37 := Try.sizeOf27
  v37 := Try.zeroValue27
  t70 := Try.underlying69
  a70 := Try.isAgg69
  z70 := Try.sizeOf69
  v70 := Try.zeroValue69
  t72 := Try.underlying71
  a72 := Try.isAgg71
  z72 := Try.sizeOf71
  v72 := Try.zeroValue71
  t75 := Try.underlying74
  a75 := Try.isAgg74
  z75 := Try.sizeOf74
  v75 := Try.zeroValue74
  t76 := Try.underlying75
  a76 := Try.isAgg75
  z76 := Try.sizeOf75
  v76 := Try.zeroValue75
  t127 := Try.underlying78
  a127 := Try.isAgg78
  z127 := Try.sizeOf78
  v127 := Try.zeroValue78
  t164 := Try.underlying79
  a164 := Try.isAgg79
  z164 := Try.sizeOf79
  v164 := Try.zeroValue79 }
theorem Try.Builder_Extra_156 : Builder.Extra Try.prog Try.lays156_ren := {
  sizeBuilder := by kernel_rfl
  liesBuilder := by kernel_rfl
  t5 := Try.underlying5
  a5 := Try.isAgg5
  z5 := Try.sizeOf5
  v5 := Try.zeroValue5
  infoByte := by kernel_rfl
  cellsByte := by kernel_rfl
  sizeByte := by kernel_rfl
  neB5 := by decide }
open Go.RowKit in
theorem Try.strings_Join_none (a : Option Addr) (c : Nat) (sep : ByteArray) (w : World) :
    Calls Try.prog 36 #[.slice a 0 c, .string sep] w fun e w' => e = .returned (.string ⟨#[]⟩) ∧ w' = w := Any.strings_Join_none Try.lays156 Try.Builder_Extra_156 a c sep w
open Go.RowKit in
theorem Try.strings_Join (bk o c : Nat) (xs : List ByteArray) (sep : ByteArray) (w : World) (hcells : ∀ (j : Nat) x, xs[j]? = some x → w.cell? ⟨bk, o + j, none⟩ = some (.string x)) (hbk : bk < w.heap.size) (hN : xs.length ≤ 140737488355328) (hcap : xs.length ≤ c) (hlen : (Lib.join (xs.map (·.data.toList)) sep.data.toList).length ≤ 140737488355328) :
    Calls Try.prog 36 #[.slice (some ⟨bk, o, none⟩) xs.length c, .string sep] w fun e w' => e = .returned (.string ⟨(Lib.join (xs.map (·.data.toList)) sep.data.toList).toArray⟩) ∧ Below w.heap.size w w' := Any.strings_Join Try.lays156 Try.Builder_Extra_156 bk o c xs sep w hcells hbk hN hcap hlen
def Try.laysnb116_ren : Go.Shelf.Ren := ⟨fun | 116 => 33 | 115 => 37 | n => n, fun | 37 => 27 | 4 => 4 | 3 => 3 | 9 => 9 | 5 => 5 | n => n, fun | n => n⟩
theorem Try.laysnb116 : Go.Proofs.Lays.nb116 Try.prog Try.laysnb116_ren := {
  mixed := by kernel_rfl
  f115 := Try.func37.trans (congrArg some (by kernel_rfl))
  f116 := Try.func33.trans (congrArg some (by kernel_rfl))
  t3 := Try.underlying3
  a3 := Try.isAgg3
  z3 := Try.sizeOf3
  v3 := Try.zeroValue3
  t4 := Try.underlying4
  a4 := Try.isAgg4
  z4 := Try.sizeOf4
  v4 := Try.zeroValue4
  t9 := Try.underlying9
  a9 := Try.isAgg9
  z9 := Try.sizeOf9
  v9 := Try.zeroValue9
  t37 := Try.underlying27
  a37 := Try.isAgg27
  z37 := Try.sizeOf27
  v37 := Try.zeroValue27
  t5 := Try.underlying5
  a5 := Try.isAgg5
  z5 := Try.sizeOf5
  v5 := Try.zeroValue5 }
theorem Try.bytes_HasPrefix_all (p1 p2 : Option Addr) (n c m d : Nat) (xs ys : List Int) (w : World) (hx : xs.length = n) (hy : ys.length = m) (hnc : n ≤ c) (h1 : Lib.BytesIn w p1 n xs) (h2 : Lib.BytesIn w p2 m ys) :
    Calls Try.prog 33 #[.slice p1 n c, .slice p2 m d] w fun e w' => e = .returned (.bool (Lib.hasPrefix (Lib.bytesOf xs) (Lib.bytesOf ys))) ∧ w' = w := Any.bytes_HasPrefix_all Try.laysnb116 p1 p2 n c m d xs ys w hx hy hnc h1 h2
end Go.Proofs
