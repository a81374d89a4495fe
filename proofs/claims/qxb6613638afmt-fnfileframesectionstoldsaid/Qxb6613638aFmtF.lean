/-
  The walks of framed's closures and of slices.IndexFunc at []int64.
-/
import Derived.Test.Qxb6613638aFmtC
namespace Go.Proofs.Qxb6613638aFmt
open Go.RowKit Go.Extern

/-- It fits 32 bits. -/
def fits (t : Int) : Bool := decide (-2147483648 ≤ t) && decide (t ≤ 2147483647)

theorem f39_any (t : Int) (h0 : -9223372036854775808 ≤ t) (h1 : t ≤ 9223372036854775807) (w : World) : Calls Tryf.prog 39 #[.int .i64 t] w fun e w' => e = .returned (.bool (fits t)) ∧ w' = w := by
  go_enter Tryf.func39, Tryf.ntmps39
  go_wp2
  go_ret
  refine ⟨?_, rfl⟩
  have e : (t == wrap64 (wrap32 t)) = fits t := by
    rw [Bool.eq_iff_iff]
    simp [fits, wrap64, wrap32]
    omega
  show Ending.returned (.bool (t == wrap64 (wrap32 t))) = _
  rw [e]

theorem f41_any (t : Int) (h0 : -9223372036854775808 ≤ t) (h1 : t ≤ 9223372036854775807) (fc : Nat) (w : World) (hf : w.cell? ⟨fc, 0, none⟩ = some (.func (.func 39) #[] #[])) : Calls Tryf.prog 41 #[.int .i64 t, .pointer (some ⟨fc, 0, none⟩)] w fun e w' => e = .returned (.bool (!fits t)) ∧ w' = w := by
  have HC := hide (f39_any t h0 h1 w)
  go_enter Tryf.func41, Tryf.ntmps41
  go_wp2_with (go_at_call 39; refine (unhide HC).mono ?_; rintro e w' ⟨rfl, rfl⟩)
  go_ret
  exact ⟨rfl, rfl⟩

/-- The numbers from a on. -/
def NumsAt (w : World) (a : Option Addr) (len : Nat) (f : Nat → Int) : Prop :=
  (len = 0 ∨ ∃ b off, a = some ⟨b, off, none⟩ ∧ ∀ k, k < len → w.cell? ⟨b, off + k, none⟩ = some (.int .i64 (f k))) ∧ ∀ k, -9223372036854775808 ≤ f k ∧ f k ≤ 9223372036854775807

/-- The first place that does not fit, or -1. -/
def FirstBad (f : Nat → Int) (len : Nat) (z : Int) : Prop := (z = -1 ∧ ∀ k, k < len → fits (f k) = true) ∨ ∃ j : Nat, z = j ∧ j < len ∧ fits (f j) = false

def FoundBad (f : Nat → Int) (len : Nat) (e : Ending) : Prop := ∃ z, e = .returned (.int .i64 z) ∧ FirstBad f len z

set_option maxHeartbeats 400000 in
theorem f40_any (a : Option Addr) (len cap : Nat) (f : Nat → Int) (hl : len ≤ 1048576) (fc : Nat) (w : World) (h : NumsAt w a len f) (hf : w.cell? ⟨fc, 0, none⟩ = some (.func (.func 39) #[] #[])) :
    Calls Tryf.prog 40 #[.slice a len cap, .func (.func 41) #[] #[.pointer (some ⟨fc, 0, none⟩)]] w fun e w' => FoundBad f len e ∧ w' = w := by
  have HC : Hid (∀ k, Calls Tryf.prog 41 #[.int .i64 (f k), .pointer (some ⟨fc, 0, none⟩)] w fun e w' => e = .returned (.bool (!fits (f k))) ∧ w' = w) := fun k => f41_any (f k) (h.2 k).1 (h.2 k).2 fc w hf
  have H := hide h.1
  clear h hf
  go_enter Tryf.func40, Tryf.ntmps40
  go_wp2
  go_loop [8] (fun v => ∃ (k : Nat), k ≤ len ∧ v = .int .i64 k ∧ Hid (∀ q, q < k → fits (f q) = true)) (fun v => len - (intOf v).toNat)
  case atStart => exact ⟨0, Nat.zero_le _, rfl, fun q h => by omega⟩
  case round =>
    obtain ⟨k, hk, rfl, HA⟩ := hrel
    by_cases hlt : k < len
    · rcases unhide H with rfl | ⟨b, off, rfl, hc⟩
      · omega
      have hck := hc k hlt
      have HCk := hide (unhide HC k)
      obtain ⟨u, hu⟩ : ∃ u, fits (f k) = u := ⟨_, rfl⟩
      rw [hu] at HCk
      have HU := hide hu
      obtain ⟨x, hx⟩ : ∃ x, f k = x := ⟨_, rfl⟩
      rw [hx] at hck HCk
      clear hc H hu hx HC
      cases u with
      | true =>
        go_wp2_with (go_at_call 41; refine (unhide HCk).mono ?_; rintro e w' ⟨rfl, rfl⟩)
        go_round
        case rel =>
          refine ⟨k + 1, by omega, by go_num, fun q h => ?_⟩
          by_cases hq : q < k
          · exact unhide HA q hq
          · obtain rfl : q = k := by omega
            exact unhide HU
        case measure => simp [intOf]; omega
      | false =>
        go_wp2_with (go_at_call 41; refine (unhide HCk).mono ?_; rintro e w' ⟨rfl, rfl⟩)
        go_ret
        exact ⟨⟨_, rfl, .inr ⟨k, rfl, hlt, unhide HU⟩⟩, rfl⟩
    · obtain rfl : k = len := by omega
      clear H HC
      go_wp2
      go_ret
      exact ⟨⟨_, rfl, .inl ⟨rfl, unhide HA⟩⟩, rfl⟩
end Go.Proofs.Qxb6613638aFmt
