/-
  The walk of zzEncString.
-/
import Derived.Test.Qxb6605951aDoorC
import Derived.Lib.AppendStr
import Derived.Maps.AppendAt
namespace Go.Proofs.Qxb6605951aDoor
open Go.RowKit

/-- A string's bytes, as numbers. -/
def sb (s : ByteArray) : List Int := s.data.toList.map fun b => (b.toNat : Int)
theorem strCells_sb (s : ByteArray) : Lib.strCells s = (sb s).map (Value.int .u8) := by simp [Lib.strCells, sb]
theorem sb_length (s : ByteArray) : (sb s).length = s.size := by simp [sb]

/-- The value owns, from block B on, the bytes l. -/
def Own8 (w : World) (B : Nat) (v : Value) (l : List Int) : Prop := w.ownsRow B 5 1 v l.length (l.map (Value.int .u8))

/-- What encodes a string: at least one digit, ':', the bytes. -/
def EncOf (s : ByteArray) (l : List Int) : Prop := ∃ ds : List Int, l = ds ++ 58 :: sb s ∧ 1 ≤ ds.length ∧ ds.length ≤ 20 ∧ ∀ d ∈ ds, 48 ≤ d ∧ d ≤ (57 : Int)

def Encoded (w : World) (s : ByteArray) (e : Ending) (w' : World) : Prop := ∃ v l, e = .returned v ∧ Own8 w' w.heap.size v l ∧ EncOf s l ∧ Below w.heap.size w w'

set_option maxHeartbeats 400000 in
theorem f13_any (s : ByteArray) (hs : s.size ≤ 1048576) (w : World) : Calls Tryd.prog 13 #[.string s] w (Encoded w s) := by
  obtain ⟨i0, hi, hz0, hz1, hz2⟩ := info_parts Tryd.info5
  go_enter Tryd.func13, Tryd.ntmps13
  go_wp2_with (go_at_call 16; refine (f16_any (s.size : Int) (by omega) (by omega) w).mono ?_)
  rintro e w1 ⟨v, ds, rfl, hown, hd1, hd2, hdr, hb1⟩
  have hsz := hb1.size
  go_wp2_with (at_builtin; refine wpList_append_own _ rfl _ _ 27 rfl w.heap.size 5 i0 (.int .u8 0) 1 1 Tryd.underlying27 hi hz0 hz1 hz2 rfl (by decide) _ _ _ rfl (hown.alloc _) ⟨w1.heap.size, 0, none⟩ 1 1 [.int .u8 58] rfl rfl (cell_one_new _ _ _) (by simp [Value.oneCell']) (by unfold maxLen; omega) (by omega) (by simp; omega) ?_)
  intro v2 w2 hown2 hgrow2 _
  have hb2 : Below w.heap.size w w2 := (hb1.alloc hsz _).grown hgrow2 (by simp; omega) (fun k e => (hown.lt k e).1)
  clear hown hgrow2
  go_wp2_with (at_builtin; refine Lib.wpList_append_own_string _ rfl _ _ 27 9 rfl w.heap.size 5 i0 Tryd.underlying27 Tryd.underlying9 hi hz0 hz1 hz2 _ _ _ rfl hown2 s rfl (by unfold maxLen; omega) (by omega) hb2.size ?_)
  intro v3 w3 hown3 hgrow3 _
  have hb3 : Below w.heap.size w w3 := hb2.grown hgrow3 hb2.size (fun k e => (hown2.lt k e).1)
  clear hown2 hgrow3
  go_wp2
  go_ret
  refine ⟨_, ds ++ 58 :: sb s, rfl, ?_, ⟨ds, rfl, hd1, hd2, hdr⟩, hb3⟩
  unfold Own8
  have e1 : (ds ++ 58 :: sb s).length = ds.length + 1 + s.size := by simp [sb_length]; omega
  have e2 : (ds ++ 58 :: sb s).map (Value.int .u8) = ds.map (Value.int .u8) ++ .int .u8 58 :: Lib.strCells s := by simp [strCells_sb]
  rw [e1, e2]
  exact hown3
end Go.Proofs.Qxb6605951aDoor
