/-
  Laid by the shelf's lay-shelf and lay-plain at this seat's dump, cut to the one laying that the proof uses: strings.IndexByte.
-/
import Derived.Shelf.Small.Strs
import Derived.Shelf.Strings.Search1
import Derived.Test.Qxb6613638aFmtProg
namespace Go.Proofs
open Go.Shelf
def Tryf.lays137_ren : Go.Shelf.Ren := ⟨fun | 137 => 44 | 217 => 47 | 266 => 48 | n => n, fun | 9 => 9 | 5 => 5 | 3 => 3 | n => n, fun | n => n⟩
theorem Tryf.lays137 : Go.Proofs.Lays.n137 Tryf.prog Tryf.lays137_ren := {
  mixed := by kernel_rfl
  f137 := Tryf.func44.trans (congrArg some (by kernel_rfl))
  f217 := Tryf.func47.trans (congrArg some (by kernel_rfl))
  f266 := Tryf.func48.trans (congrArg some (by kernel_rfl))
  t3 := Tryf.underlying3
  a3 := Tryf.isAgg3
  z3 := Tryf.sizeOf3
  v3 := Tryf.zeroValue3
  t5 := Tryf.underlying5
  a5 := Tryf.isAgg5
  z5 := Tryf.sizeOf5
  v5 := Tryf.zeroValue5
  t9 := Tryf.underlying9
  a9 := Tryf.isAgg9
  z9 := Tryf.sizeOf9
  v9 := Tryf.zeroValue9 }
open Go.RowKit in
/-- strings.IndexByte hands back what Lib.indexByte says. -/
theorem Tryf.strings_IndexByte (s : ByteArray) (c : Int) (w : World) :
    Calls Tryf.prog 44 #[.string s, .int .u8 c] w fun e w' => e = .returned (.int .i64 (Lib.indexByte s.data.toList c.toNat.toUInt8)) ∧ w' = w := Any.strings_IndexByte Tryf.lays137 s c w
end Go.Proofs
