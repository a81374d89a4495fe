/-
  The walk of zzCut.
-/
import Derived.Test.Qxb6605991aB
import Derived.BigQuiet
import Derived.Lib.CutLaws
import Derived.Lib.IndexBytes
namespace Go.Proofs.Qxb6605991a
open Go.RowKit

def dot : ByteArray := ⟨#[46]⟩
/-- What lies ahead of the first dot, and what lies behind it. -/
def tableOf (s : ByteArray) : ByteArray := ⟨(Lib.cut s.data.toList dot.data.toList).1.toArray⟩
def keyOf' (s : ByteArray) : ByteArray := ⟨(Lib.cut s.data.toList dot.data.toList).2.1.toArray⟩

theorem occ_dot (l : List UInt8) (i : Nat) : Lib.occAt l [46] i = true ↔ l[i]? = some 46 := by
  unfold Lib.occAt
  have e : l[i]? = (l.drop i)[0]? := by simp
  rw [e]
  cases l.drop i with
  | nil => simp
  | cons c t =>
    simp [List.isPrefixOf]
    exact eq_comm

theorem byte_at (s : ByteArray) (k : Nat) (h : k < s.size) : s.data.toList[k]? = some s[k] := by
  rw [List.getElem?_eq_getElem (by simpa using h)]
  rfl
theorem byte_dot (s : ByteArray) (k : Nat) (h : k < s.size) : ((s[k].toNat : Int) == 46) = Lib.occAt s.data.toList [46] k := by
  rw [Bool.eq_iff_iff, occ_dot, byte_at s k h]
  simp only [beq_iff_eq, Option.some.injEq]
  constructor
  · intro q
    have : s[k].toNat = 46 := by omega
    exact UInt8.toNat_inj.1 this
  · intro q
    rw [q]; rfl

theorem cut_hit (s : ByteArray) (k : Nat) (h : k < s.size) (ho : Lib.occAt s.data.toList [46] k = true) (hno : ∀ j, j < k → Lib.occAt s.data.toList [46] j = false) :
    tableOf s = s.extract 0 k ∧ keyOf' s = s.extract (k + 1) s.size := by
  have hi : Lib.index s.data.toList dot.data.toList = k := Lib.index_first (by simpa using Nat.le_of_lt h) ho hno
  obtain ⟨h1, h2, _⟩ := Lib.cutB_hit s dot k hi
  exact ⟨h1, h2⟩
theorem cut_miss (s : ByteArray) (hno : ∀ j, j < s.size → Lib.occAt s.data.toList [46] j = false) :
    tableOf s = s ∧ keyOf' s = ByteArray.empty := by
  have hi : Lib.index s.data.toList dot.data.toList = -1 := Lib.index_none fun j hj => by
    by_cases h : j < s.size
    · exact hno j h
    · cases hb : Lib.occAt s.data.toList dot.data.toList j with
      | false => rfl
      | true =>
        have := (occ_dot _ _).1 hb
        rw [List.getElem?_eq_none (by simpa using h)] at this
        cases this
  obtain ⟨h1, h2, _⟩ := Lib.cutB_miss s dot hi
  exact ⟨h1, h2⟩

set_option maxHeartbeats 400000 in
theorem f9_any (s : ByteArray) (hs : s.size ≤ 1048576) (w : World) :
    Calls Try.prog 9 #[.string s] w fun e w' => e = .returned (.tuple #[.string (tableOf s), .string (keyOf' s)]) ∧ ∃ n, w' = w.drewN n := by
  go_enter Try.func9, Try.ntmps9
  go_wp2
  go_loop [4] (fun i => ∃ (k : Nat), k ≤ s.size ∧ i = .int .i64 k ∧ Hid (∀ j, j < k → Lib.occAt s.data.toList [46] j = false)) (fun i => s.size - (intOf i).toNat)
  case atStart => exact ⟨0, Nat.zero_le _, rfl, fun j hj => by omega⟩
  case round =>
    obtain ⟨k, hk, rfl, hno⟩ := hrel
    by_cases hlt : k < s.size
    · have hbd := byte_dot s k hlt
      cases ho : Lib.occAt s.data.toList [46] k with
      | true =>
        rw [ho] at hbd
        obtain ⟨h1, h2⟩ := cut_hit s k hlt ho hno.out
        have H1 := hide h1
        have H2 := hide h2
        clear h1 h2 ho
        go_wp2
        go_quiet (fail)
        go_wp2
        go_ret2
        exact ⟨by rw [unhide H1, unhide H2]; rfl, _, rfl⟩
      | false =>
        rw [ho] at hbd
        have HO := hide ho
        clear ho
        go_wp2
        go_round
        case rel =>
          refine ⟨k + 1, by omega, by go_num, fun j hj => ?_⟩
          by_cases hjk : j < k
          · exact hno.out j hjk
          · obtain rfl : j = k := by omega
            exact unhide HO
        case measure => simp [intOf]; omega
    · obtain rfl : k = s.size := by omega
      obtain ⟨h1, h2⟩ := cut_miss s hno.out
      have H1 := hide h1
      have H2 := hide h2
      clear h1 h2
      go_wp2
      go_ret2
      exact ⟨by rw [unhide H1, unhide H2]; rfl, 0, rfl⟩
end Go.Proofs.Qxb6605991a
