/-
  Leaf walks of the seat b6605951aD: kindOf, zzBytes, zzStringsBytes, zzCloneStrings.
-/
import Derived.Test.Qxb6605951aDoorProg
import Derived.WalkKit
import Derived.WalkSpells
import Derived.Below
import Derived.Laws.CopyOwn
import Derived.OwnWalk
import Derived.Outline
namespace Go.Proofs.Qxb6605951aDoor
open Go.RowKit

/-- It ended by handing back some bool, true only where p holds. -/
def IsBool (p : Prop) (e : Ending) : Prop := ∃ b, e = .returned (.bool b) ∧ (b = true → p)
theorem isBool_false (p : Prop) : IsBool p (.returned (.bool false)) := ⟨false, rfl, fun h => by cases h⟩
theorem isBool_true {p : Prop} (h : p) : IsBool p (.returned (.bool true)) := ⟨true, rfl, fun _ => h⟩

/-- The cells from 'a' on hold the strings f 0, f 1, .., f (len - 1). -/
def StrsAt (w : World) (a : Option Addr) (len : Nat) (f : Nat → ByteArray) : Prop :=
  len = 0 ∨ ∃ b off, a = some ⟨b, off, none⟩ ∧ ∀ k, k < len → w.cell? ⟨b, off + k, none⟩ = some (.string (f k))

set_option maxHeartbeats 400000 in
/-- zzBytes: it answers some bool and turns nothing; at true every string is short. -/
theorem f4_any (a : Option Addr) (len cap : Nat) (f : Nat → ByteArray) (n : Int) (w : World) (h : StrsAt w a len f)
    (hl : len ≤ 9223372036854775807) (hs : ∀ k : Nat, (f k).size ≤ 9223372036854775807) :
    Calls Tryd.prog 4 #[.slice a len cap, .int .i64 n] w fun e w' => IsBool (∀ k, k < len → (f k).size ≤ 1048576) e ∧ w' = w := by
  by_cases hbig : (1048576 : Int) < (len : Int)
  · go_enter Tryd.func4, Tryd.ntmps4
    go_wp2
    go_ret
    exact ⟨isBool_false _, rfl⟩
  · go_enter Tryd.func4, Tryd.ntmps4
    go_wp2
    go_loop [5, 6] (fun t i => ∃ (k : Nat) (z : Int), k ≤ len ∧ i = .int .i64 k ∧ t = .int .i64 z ∧ 0 ≤ z ∧ z ≤ 1048576 ∧ Hid (∀ j, j < k → (f j).size ≤ 1048576)) (fun _ i => len - (intOf i).toNat)
    case atStart => exact ⟨0, len, Nat.zero_le _, rfl, rfl, by omega, by omega, fun j hj => by omega⟩
    case round =>
      obtain ⟨k, z, hk, rfl, rfl, hz0, hz1, hall⟩ := hrel
      by_cases hlt : k < len
      · rcases h with rfl | ⟨b, off, rfl, hc⟩
        · omega
        have hck := hc k (by omega)
        have hsk := hs k
        obtain ⟨s, hsf⟩ : ∃ s, f k = s := ⟨_, rfl⟩
        rw [hsf] at hck hsk
        have HF : Hid (f k = s) := hsf
        clear hc hs hsf
        go_wp2
        · go_ret; exact ⟨isBool_false _, rfl⟩
        · go_ret; exact ⟨isBool_false _, rfl⟩
        · go_round
          case rel =>
            refine ⟨k + 1, z + s.size, by omega, by go_num, rfl, by omega, by omega, fun j hj => ?_⟩
            by_cases hjk : j < k
            · exact hall.out j hjk
            · obtain rfl : j = k := by omega
              rw [HF.out]; omega
          case measure => simp [intOf]; omega
      · obtain rfl : k = len := by omega
        clear h hs
        go_wp2
        go_ret
        exact ⟨isBool_true hall.out, rfl⟩

/-- The bytes of the first k strings. -/
def total (f : Nat → ByteArray) : Nat → Nat
  | 0 => 0
  | k + 1 => total f k + (f k).size

set_option maxHeartbeats 400000 in
/-- zzStringsBytes: an answer of at most 2^20 bounds all the bytes. -/
theorem f5_any (a : Option Addr) (len cap : Nat) (f : Nat → ByteArray) (w : World) (h : StrsAt w a len f)
    (hl : len ≤ 65536) (hs : ∀ k : Nat, k < len → (f k).size ≤ 1048576) :
    Calls Tryd.prog 5 #[.slice a len cap] w fun e w' => (∃ z : Int, e = .returned (.int .i64 z) ∧ (z ≤ 1048576 → 16 * len + total f len ≤ 1048576)) ∧ w' = w := by
  go_enter Tryd.func5, Tryd.ntmps5
  go_wp2
  go_loop [3, 4] (fun t i => ∃ (k : Nat) (z : Int), k ≤ len ∧ i = .int .i64 k ∧ t = .int .i64 z ∧ z = 16 * len + total f k ∧ z ≤ 1048576) (fun _ i => len - (intOf i).toNat)
  case atStart => exact ⟨0, 16 * len, Nat.zero_le _, rfl, rfl, by simp [total], by omega⟩
  case round =>
    obtain ⟨k, z, hk, rfl, rfl, hz0, hz1⟩ := hrel
    have HZ : Hid (z = 16 * len + total f k) := hz0
    have hz2 : 0 ≤ z := by omega
    clear hz0
    by_cases hlt : k < len
    · rcases h with rfl | ⟨b, off, rfl, hc⟩
      · omega
      have hck := hc k (by omega)
      have hsk := hs k hlt
      have HT : Hid (total f (k + 1) = total f k + (f k).size) := rfl
      generalize f k = s at hck hsk HT
      clear hc hs
      go_wp2
      · go_ret
        exact ⟨⟨_, rfl, by intro; omega⟩, rfl⟩
      · go_round
        case rel => exact ⟨k + 1, z + s.size, by omega, by go_num, rfl, by have := HT.out; have := HZ.out; omega, by omega⟩
        case measure => simp [intOf]; omega
    · clear h hs
      obtain rfl : k = len := by omega
      go_wp2
      go_ret
      exact ⟨⟨_, rfl, by intro; have := HZ.out; omega⟩, rfl⟩

/-- kindOf at a byte that is none of 'i', 'l', 'd': a string. -/
theorem f26_string (c : Int) (h1 : (c == 105) = false) (h2 : (c == 108) = false) (h3 : (c == 100) = false) (w : World) :
    Calls Tryd.prog 26 #[.int .u8 c] w fun e w' => e = .returned (.int .u8 2) ∧ w' = w := by
  go_enter Tryd.func26, Tryd.ntmps26
  go_wp2
  go_ret
  exact ⟨rfl, rfl⟩
end Go.Proofs.Qxb6605951aDoor
