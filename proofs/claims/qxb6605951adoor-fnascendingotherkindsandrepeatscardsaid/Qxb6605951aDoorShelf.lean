/-
  Laid by the shelf's lay-shelf and lay-plain at this seat's dump, cut to the two layings that the proof uses: strconv.AppendInt at base 10, bytes.IndexByte.
-/
import Derived.Shelf.LaysM
import Derived.Shelf.Strconv.AppendIntPublic10
import Derived.Shelf.Bytes.SlIndexAt
import Derived.Test.Qxb6605951aDoorProg
namespace Go.Proofs
open Go.Shelf
def Tryd.laysM176_ren : Go.Shelf.Ren := ⟨fun | 176 => 19 | 249 => 25 | 288 => 28 | 283 => 30 | 284 => 31 | 285 => 32 | 286 => 33 | 129 => 35 | 317 => 34 | 318 => 36 | 319 => 37 | 320 => 38 | 337 => 39 | 338 => 40 | n => n, fun | 37 => 27 | 2 => 2 | 3 => 3 | 53 => 52 | 4 => 4 | 9 => 9 | 171 => 68 | 0 => 0 | 173 => 71 | 212 => 75 | 51 => 76 | 5 => 5 | 20 => 20 | 213 => 77 | 46 => 79 | 232 => 82 | 233 => 83 | n => n, fun | 17 => 1 | 18 => 2 | 19 => 3 | n => n⟩
theorem Tryd.laysM176 : Go.Proofs.LaysM.n176 Tryd.prog Tryd.laysM176_ren := {
  mixed := by kernel_rfl
  f129 := Tryd.func35.trans (congrArg some (by kernel_rfl))
  f176 := Tryd.func19.trans (congrArg some (by kernel_rfl))
  f249 := Tryd.func25.trans (congrArg some (by kernel_rfl))
  f283 := Tryd.func30.trans (congrArg some (by kernel_rfl))
  f284 := Tryd.func31.trans (congrArg some (by kernel_rfl))
  f285 := Tryd.func32.trans (congrArg some (by kernel_rfl))
  f286 := Tryd.func33.trans (congrArg some (by kernel_rfl))
  f288 := Tryd.func28.trans (congrArg some (by kernel_rfl))
  f317 := Tryd.func34.trans (congrArg some (by kernel_rfl))
  f318 := Tryd.func36.trans (congrArg some (by kernel_rfl))
  f319 := Tryd.func37.trans (congrArg some (by kernel_rfl))
  f320 := Tryd.func38.trans (congrArg some (by kernel_rfl))
  f337 := Tryd.func39.trans (congrArg some (by kernel_rfl))
  f338 := Tryd.func40.trans (congrArg some (by kernel_rfl))
  t0 := Tryd.underlying0
  a0 := Tryd.isAgg0
  z0 := Tryd.sizeOf0
  v0 := Tryd.zeroValue0
  t2 := Tryd.underlying2
  a2 := Tryd.isAgg2
  z2 := Tryd.sizeOf2
  v2 := Tryd.zeroValue2
  t3 := Tryd.underlying3
  a3 := Tryd.isAgg3
  z3 := Tryd.sizeOf3
  v3 := Tryd.zeroValue3
  t4 := Tryd.underlying4
  a4 := Tryd.isAgg4
  z4 := Tryd.sizeOf4
  v4 := Tryd.zeroValue4
  t5 := Tryd.underlying5
  a5 := Tryd.isAgg5
  z5 := Tryd.sizeOf5
  v5 := Tryd.zeroValue5
  t9 := Tryd.underlying9
  a9 := Tryd.isAgg9
  z9 := Tryd.sizeOf9
  v9 := Tryd.zeroValue9
  t20 := Tryd.underlying20
  a20 := Tryd.isAgg20
  z20 := Tryd.sizeOf20
  v20 := Tryd.zeroValue20
  t37 := Tryd.underlying27
  a37 := Tryd.isAgg27
  z37 := Tryd.sizeOf27
  v37 := Tryd.zeroValue27
  t46 := Tryd.underlying79
  a46 := Tryd.isAgg79
  z46 := Tryd.sizeOf79
  v46 := Tryd.zeroValue79
  t51 := Tryd.underlying76
  a51 := Tryd.isAgg76
  z51 := Tryd.sizeOf76
  v51 := Tryd.zeroValue76
  t53 := Tryd.underlying52
  a53 := Tryd.isAgg52
  z53 := Tryd.sizeOf52
  v53 := Tryd.zeroValue52
  t171 := Tryd.underlying68
  a171 := Tryd.isAgg68
  z171 := Tryd.sizeOf68
  v171 := Tryd.zeroValue68
  t173 := Tryd.underlying71
  a173 := Tryd.isAgg71
  z173 := Tryd.sizeOf71
  v173 := Tryd.zeroValue71
  t212 := Tryd.underlying75
  a212 := Tryd.isAgg75
  z212 := Tryd.sizeOf75
  v212 := Tryd.zeroValue75
  t213 := Tryd.underlying77
  a213 := Tryd.isAgg77
  z213 := Tryd.sizeOf77
  t232 := Tryd.underlying82
  a232 := Tryd.isAgg82
  z232 := Tryd.sizeOf82
  v232 := Tryd.zeroValue82
  t233 := Tryd.underlying83
  a233 := Tryd.isAgg83
  z233 := Tryd.sizeOf83
  v233 := Tryd.zeroValue83
  g17 := by kernel_rfl
  g18 := by kernel_rfl
  g19 := by kernel_rfl
  i0 := by kernel_rfl
  i2 := by kernel_rfl
  i3 := by kernel_rfl
  i4 := by kernel_rfl
  i5 := by kernel_rfl
  i9 := by kernel_rfl
  i20 := by kernel_rfl
  i37 := by kernel_rfl
  i46 := by kernel_rfl
  i51 := by kernel_rfl
  i53 := by kernel_rfl
  i171 := by kernel_rfl
  i173 := by kernel_rfl
  i212 := by kernel_rfl
  i232 := by kernel_rfl
  i233 := by kernel_rfl
  m17 := by kernel_rfl
  m18 := by kernel_rfl
  m19 := by kernel_rfl }
def Tryd.lays187_ren : Go.Shelf.Ren := ⟨fun | 187 => 27 | 255 => 29 | n => n, fun | 37 => 27 | 5 => 5 | 3 => 3 | n => n, fun | n => n⟩
theorem Tryd.lays187 : Go.Proofs.Lays.n187 Tryd.prog Tryd.lays187_ren := {
  mixed := by kernel_rfl
  f187 := Tryd.func27.trans (congrArg some (by kernel_rfl))
  f255 := Tryd.func29.trans (congrArg some (by kernel_rfl))
  t3 := Tryd.underlying3
  a3 := Tryd.isAgg3
  z3 := Tryd.sizeOf3
  v3 := Tryd.zeroValue3
  t5 := Tryd.underlying5
  a5 := Tryd.isAgg5
  z5 := Tryd.sizeOf5
  v5 := Tryd.zeroValue5
  t37 := Tryd.underlying27
  a37 := Tryd.isAgg27
  z37 := Tryd.sizeOf27
  v37 := Tryd.zeroValue27 }
open Go.RowKit Go.Lib in
theorem Tryd.bytes_IndexByte_at (a : Addr) (n c : Nat) (xs : List Int) (cv : Int) (w : World) (hx : xs.length = n) (hc : ∀ i, i < n → w.cell? (a.add i) = some (.int .u8 (xs.getD i 0))) :
    Calls Tryd.prog 27 #[.slice (some a) n c, .int .u8 cv] w fun e w' => e = .returned (.int .i64 (Lib.indexByte (Lib.bytesOf xs) cv.toNat.toUInt8)) ∧ w' = w := Any.bytes_IndexByte_at Tryd.lays187 a n c xs cv w hx hc
end Go.Proofs
