/-
  The walks of the byte tests and of the two scanners.
-/
import Derived.Test.Qxb6612596aProg
import Derived.WalkKit
import Derived.WalkSpells
import Derived.Below
import Derived.Laws.CopyOwn
import Derived.Laws.IdiomCopy
import Derived.OwnWalk
import Derived.Outline
import Derived.Lib.SliceRun
namespace Go.Proofs.Qxb6612596a
open Go.RowKit

theorem hide {p : Prop} (h : p) : Hid p := h
theorem unhide {p : Prop} (h : Hid p) : p := h

/-- A letter, a digit or '-'. -/
def word (c : Int) : Bool := c == 45 || (decide (48 ≤ c) && decide (c ≤ 57)) || (decide (97 ≤ c) && decide (c ≤ 122)) || (decide (65 ≤ c) && decide (c ≤ 90))
/-- .. or '_'. -/
def anc (c : Int) : Bool := word c || c == 95

theorem ret_bool {a b : Bool} (h : a = true ↔ b = true) : Ending.returned (.bool a) = Ending.returned (.bool b) := by rw [Bool.eq_iff_iff.2 h]

theorem f12_any (c : Int) (w : World) : Calls Try.prog 12 #[.int .u8 c] w fun e w' => e = .returned (.bool (word c)) ∧ w' = w := by
  go_enter Try.func12, Try.ntmps12
  go_wp2
  all_goals
    go_ret
    refine ⟨ret_bool ?_, rfl⟩
    simp [word] <;> omega
theorem f7_any (c : Int) (w : World) : Calls Try.prog 7 #[.int .u8 c] w fun e w' => e = .returned (.bool (anc c)) ∧ w' = w := by
  go_enter Try.func7, Try.ntmps7
  go_wp2
  all_goals
    go_ret
    refine ⟨ret_bool ?_, rfl⟩
    simp [anc, word] <;> omega
theorem f8_any (a : Option Addr) (len cap : Nat) (i l : Int) (hl : len ≤ 9223372036854775807) (w : World) : Calls Try.prog 8 #[.slice a len cap, .int .i64 i, .int .i64 l] w fun e w' => e = .returned (.bool (decide (len ≤ 1048576))) ∧ w' = w := by
  by_cases h : (1048576 : Int) < len
  · have h' : ¬ len ≤ 1048576 := by omega
    go_enter Try.func8, Try.ntmps8
    go_wp2
    go_ret
    exact ⟨by simp [h'], rfl⟩
  · have h' : len ≤ 1048576 := by omega
    go_enter Try.func8, Try.ntmps8
    go_wp2
    go_ret
    exact ⟨by simp, rfl⟩
end Go.Proofs.Qxb6612596a
