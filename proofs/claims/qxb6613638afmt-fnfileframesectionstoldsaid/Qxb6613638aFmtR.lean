/-
  The walks of zzFits32 and zzHoldsByte.
-/
import Derived.Test.Qxb6613638aFmtF
import Derived.Test.Qxb6613638aFmtH
import Derived.Lib.IndexLaws
namespace Go.Proofs.Qxb6613638aFmt
open Go.RowKit Go.Extern

theorem f36_any (t : Int) (w : World) : Calls Tryf.prog 36 #[.int .i64 t] w fun e w' => e = .returned (.bool (fits t)) ∧ w' = w := by
  by_cases h0 : -2147483648 ≤ t
  · have e : fits t = decide (t ≤ 2147483647) := by simp [fits, h0]
    rw [e]
    clear e
    go_enter Tryf.func36, Tryf.ntmps36
    go_wp2
    go_ret
    exact ⟨rfl, rfl⟩
  · have e : fits t = false := by simp [fits, h0]
    rw [e]
    clear e
    go_enter Tryf.func36, Tryf.ntmps36
    go_wp2
    go_ret
    exact ⟨rfl, rfl⟩

theorem holds_at (s : ByteArray) (c : Int) (k : Nat) (hk : k < s.size) (h : (s[k].toNat : Int) = c) : holds s c = true := by
  unfold holds
  refine decide_eq_true (Decidable.byContradiction fun hn => ?_)
  have hge := Lib.indexByte_ge s.data.toList c.toNat.toUInt8
  refine Lib.indexByte_none (l := s.data.toList) (c := c.toNat.toUInt8) (by omega) k ?_
  subst h
  have e : s.data.toList[k]? = some s[k] := by
    rw [Array.getElem?_toList]
    exact Array.getElem?_eq_getElem hk
  rw [e]
  simp

theorem holds_not (s : ByteArray) (c : Int) (hc : 0 ≤ c ∧ c < 256) (h : ∀ (k : Nat) (hk : k < s.size), (s[k].toNat : Int) ≠ c) : holds s c = false := by
  unfold holds
  refine decide_eq_false fun hn => ?_
  obtain ⟨o, ho⟩ := Int.eq_ofNat_of_zero_le hn
  have hs := (Lib.indexByte_some ho).1
  rw [Array.getElem?_toList] at hs
  obtain ⟨hlt, he⟩ := Array.getElem?_eq_some_iff.1 hs
  refine h o hlt ?_
  have e : s[o] = c.toNat.toUInt8 := he
  rw [e]
  have : c.toNat.toUInt8.toNat = c.toNat := by
    simp only [Nat.toUInt8, UInt8.toNat_ofNat']
    omega
  rw [this]
  omega

theorem f23_any (s : ByteArray) (c : Int) (hc : 0 ≤ c ∧ c < 256) (hs : s.size ≤ 1048576) (w : World) : Calls Tryf.prog 23 #[.string s, .int .u8 c] w fun e w' => e = .returned (.bool (holds s c)) ∧ w' = w := by
  obtain ⟨b, hb⟩ : ∃ b, holds s c = b := ⟨_, rfl⟩
  rw [hb]
  have HB := hide hb
  have HC := hide hc
  clear hb hc
  go_enter Tryf.func23, Tryf.ntmps23
  go_wp2
  go_loop [5] (fun v => ∃ (k : Nat), k ≤ s.size ∧ v = .int .i64 k ∧ Hid (∀ (q : Nat) (hq : q < s.size), q < k → (s[q].toNat : Int) ≠ c)) (fun v => s.size - (intOf v).toNat)
  case atStart => exact ⟨0, Nat.zero_le _, rfl, fun q _ h => by omega⟩
  case round =>
    obtain ⟨k, hk, rfl, HA⟩ := hrel
    by_cases hlt : k < s.size
    · cases hu : ((s[k].toNat : Int) == c) with
      | true =>
        have hbt : b = true := by rw [← unhide HB]; exact holds_at s c k hlt (by simpa using hu)
        subst hbt
        go_wp2
        go_ret
        exact ⟨rfl, rfl⟩
      | false =>
        have HU : Hid ((s[k].toNat : Int) ≠ c) := hide (by simpa using hu)
        go_wp2
        go_round
        case rel =>
          refine ⟨k + 1, by omega, by go_num, fun q hq h => ?_⟩
          by_cases hqk : q < k
          · exact unhide HA q hq hqk
          · obtain rfl : q = k := by omega
            exact unhide HU
        case measure => simp [intOf]; omega
    · obtain rfl : k = s.size := by omega
      have hbf : b = false := by rw [← unhide HB]; exact holds_not s c (unhide HC) (fun q hq => unhide HA q hq hq)
      subst hbf
      go_wp2
      go_ret
      exact ⟨rfl, rfl⟩
end Go.Proofs.Qxb6613638aFmt
