/-
  Laid by the shelf's lay-shelf and lay-plain at this seat's dump, cut to the one laying that the proof uses: strings.Cut.
-/
import Derived.Shelf.Strings.Cut
import Derived.Test.Qxb6605991aProg
namespace Go.Proofs
open Go.Shelf
def Try.lays145_ren : Go.Shelf.Ren := ⟨fun | 145 => 16 | 220 => 18 | 219 => 19 | 217 => 20 | 225 => 21 | 224 => 22 | 267 => 23 | 266 => 24 | 314 => 25 | n => n, fun | 9 => 9 | 4 => 4 | 59 => 46 | 3 => 3 | 5 => 5 | 46 => 53 | 146 => 55 | 51 => 54 | n => n, fun | 1 => 0 | n => n⟩
theorem Try.lays145 : Go.Proofs.Lays.n145 Try.prog Try.lays145_ren := {
  mixed := by kernel_rfl
  f145 := Try.func16.trans (congrArg some (by kernel_rfl))
  f217 := Try.func20.trans (congrArg some (by kernel_rfl))
  f219 := Try.func19.trans (congrArg some (by kernel_rfl))
  f220 := Try.func18.trans (congrArg some (by kernel_rfl))
  f224 := Try.func22.trans (congrArg some (by kernel_rfl))
  f225 := Try.func21.trans (congrArg some (by kernel_rfl))
  f266 := Try.func24.trans (congrArg some (by kernel_rfl))
  f267 := Try.func23.trans (congrArg some (by kernel_rfl))
  f314 := Try.func25.trans (congrArg some (by kernel_rfl))
  t3 := Try.underlying3
  a3 := Try.isAgg3
  z3 := Try.sizeOf3
  v3 := Try.zeroValue3
  t4 := Try.underlying4
  a4 := Try.isAgg4
  z4 := Try.sizeOf4
  v4 := Try.zeroValue4
  t5 := Try.underlying5
  a5 := Try.isAgg5
  z5 := Try.sizeOf5
  v5 := Try.zeroValue5
  t9 := Try.underlying9
  a9 := Try.isAgg9
  z9 := Try.sizeOf9
  v9 := Try.zeroValue9
  t46 := Try.underlying53
  a46 := Try.isAgg53
  z46 := Try.sizeOf53
  v46 := Try.zeroValue53
  t51 := Try.underlying54
  a51 := Try.isAgg54
  z51 := Try.sizeOf54
  v51 := Try.zeroValue54
  t59 := Try.underlying46
  a59 := Try.isAgg46
  z59 := Try.sizeOf46
  v59 := Try.zeroValue46
  t146 := Try.underlying55
  a146 := Try.isAgg55
  z146 := Try.sizeOf55
  v146 := Try.zeroValue55
  g1 := by kernel_rfl }
open Go.RowKit Go.Lib in
/-- strings.Cut hands back what Lib.cut says. -/
theorem Try.strings_Cut (s sep : ByteArray) (m : Int) (w : World) (hs : s.size < 4294967281) (hm : w.cell? ⟨0, 0, none⟩ = some (.int .i64 m)) :
    Calls Try.prog 16 #[.string s, .string sep] w fun e w' => e = .returned (.tuple #[.string ⟨(Lib.cut s.data.toList sep.data.toList).1.toArray⟩, .string ⟨(Lib.cut s.data.toList sep.data.toList).2.1.toArray⟩, .bool (Lib.cut s.data.toList sep.data.toList).2.2]) ∧ ∃ n, w' = w.drewN n := Any.strings_Cut Try.lays145 s sep m w hs hm
end Go.Proofs
