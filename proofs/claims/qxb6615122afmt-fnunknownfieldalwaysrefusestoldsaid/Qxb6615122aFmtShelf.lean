/-
  Written by the kit's tools lay-shelf.mjs and lay-plain.mjs for this program, cut down to what is used: the shelf's contract of strings.Join at this dump, in plain words.
-/
import Derived.Shelf.Strings.OnBuilder
import Derived.Test.Qxb6615122aFmtProg
namespace Go.Proofs
open Go.Shelf
def Tryf.lays156_ren : Go.Shelf.Ren := ⟨fun | 156 => 14 | 165 => 15 | 166 => 16 | 169 => 17 | 240 => 18 | 241 => 19 | 276 => 20 | 277 => 21 | n => n, fun | 31 => 22 | 9 => 9 | 3 => 3 | 4 => 4 | 0 => 0 | 20 => 20 | 72 => 42 | 76 => 44 | 70 => 39 | 37 => 40 | 75 => 26 | 127 => 47 | 164 => 48 | 5 => 5 | 80 => 46 | n => n, fun | n => n⟩
theorem Tryf.lays156 : Go.Proofs.Lays.n156 Tryf.prog Tryf.lays156_ren := {
  mixed := by kernel_rfl
  f156 := Tryf.func14.trans (congrArg some (by kernel_rfl))
  f165 := Tryf.func15.trans (congrArg some (by kernel_rfl))
  f166 := Tryf.func16.trans (congrArg some (by kernel_rfl))
  f169 := Tryf.func17.trans (congrArg some (by kernel_rfl))
  f240 := Tryf.func18.trans (congrArg some (by kernel_rfl))
  f241 := Tryf.func19.trans (congrArg some (by kernel_rfl))
  f276 := Tryf.func20.trans (congrArg some (by kernel_rfl))
  f277 := Tryf.func21.trans (congrArg some (by kernel_rfl))
  t0 := Tryf.underlying0
  a0 := Tryf.isAgg0
  z0 := Tryf.sizeOf0
  v0 := Tryf.zeroValue0
  t3 := Tryf.underlying3
  a3 := Tryf.isAgg3
  z3 := Tryf.sizeOf3
  v3 := Tryf.zeroValue3
  t4 := Tryf.underlying4
  a4 := Tryf.isAgg4
  z4 := Tryf.sizeOf4
  v4 := Tryf.zeroValue4
  t9 := Tryf.underlying9
  a9 := Tryf.isAgg9
  z9 := Tryf.sizeOf9
  v9 := Tryf.zeroValue9
  t20 := Tryf.underlying20
  a20 := Tryf.isAgg20
  z20 := Tryf.sizeOf20
  v20 := Tryf.zeroValue20
  t31 := Tryf.underlying22
  a31 := Tryf.isAgg22
  z31 := Tryf.sizeOf22
  v31 := Tryf.zeroValue22
  t37 := Tryf.underlying40
  a37 := Tryf.isAgg40
  z37 := Tryf.sizeOf40
  v37 := Tryf.zeroValue40
  t70 := Tryf.underlying39
  a70 := Tryf.isAgg39
  z70 := Tryf.sizeOf39
  v70 := Tryf.zeroValue39
  t72 := Tryf.underlying42
  a72 := Tryf.isAgg42
  z72 := Tryf.sizeOf42
  v72 := Tryf.zeroValue42
  t75 := Tryf.underlying26
  a75 := Tryf.isAgg26
  z75 := Tryf.sizeOf26
  v75 := Tryf.zeroValue26
  t76 := Tryf.underlying44
  a76 := Tryf.isAgg44
  z76 := Tryf.sizeOf44
  v76 := Tryf.zeroValue44
  t127 := Tryf.underlying47
  a127 := Tryf.isAgg47
  z127 := Tryf.sizeOf47
  v127 := Tryf.zeroValue47
  t164 := Tryf.underlying48
  a164 := Tryf.isAgg48
  z164 := Tryf.sizeOf48
  v164 := Tryf.zeroValue48 }
theorem Tryf.Builder_Extra_156 : Builder.Extra Tryf.prog Tryf.lays156_ren := {
  sizeBuilder := by kernel_rfl
  liesBuilder := by kernel_rfl
  t5 := Tryf.underlying5
  a5 := Tryf.isAgg5
  z5 := Tryf.sizeOf5
  v5 := Tryf.zeroValue5
  infoByte := by kernel_rfl
  cellsByte := by kernel_rfl
  sizeByte := by kernel_rfl
  neB5 := by decide }
open Go.RowKit in
theorem Tryf.strings_Join_none (a : Option Addr) (c : Nat) (sep : ByteArray) (w : World) :
    Calls Tryf.prog 14 #[.slice a 0 c, .string sep] w fun e w' => e = .returned (.string ⟨#[]⟩) ∧ w' = w := Any.strings_Join_none Tryf.lays156 Tryf.Builder_Extra_156 a c sep w
open Go.RowKit in
theorem Tryf.strings_Join (bk o c : Nat) (xs : List ByteArray) (sep : ByteArray) (w : World) (hcells : ∀ (j : Nat) x, xs[j]? = some x → w.cell? ⟨bk, o + j, none⟩ = some (.string x)) (hbk : bk < w.heap.size) (hN : xs.length ≤ 140737488355328) (hcap : xs.length ≤ c) (hlen : (Lib.join (xs.map (·.data.toList)) sep.data.toList).length ≤ 140737488355328) :
    Calls Tryf.prog 14 #[.slice (some ⟨bk, o, none⟩) xs.length c, .string sep] w fun e w' => e = .returned (.string ⟨(Lib.join (xs.map (·.data.toList)) sep.data.toList).toArray⟩) ∧ Below w.heap.size w w' := Any.strings_Join Tryf.lays156 Tryf.Builder_Extra_156 bk o c xs sep w hcells hbk hN hcap hlen
end Go.Proofs
