/-
  The walk of zzBytes.
-/
import Derived.Test.Qxb6605991aC
namespace Go.Proofs.Qxb6605991a
open Go.RowKit

/-- What an answer true tells. -/
def Small (p : ByteArray) (l1 l2 : Nat) (kl : Nat → Nat) (l3 l4 l5 l6 : Nat) (nm vl : ByteArray) : Prop :=
  p.size ≤ 1048576 ∧ l1 ≤ 1048576 ∧ l2 ≤ 1048576 ∧ (∀ j, j < l2 → kl j ≤ 1048576) ∧ l3 ≤ 1048576 ∧ l4 ≤ 1048576 ∧ l5 ≤ 1048576 ∧ l6 ≤ 1048576 ∧ nm.size ≤ 1048576 ∧ vl.size ≤ 1048576

set_option maxRecDepth 20000 in
set_option maxHeartbeats 4000000 in
theorem f4_any (p : ByteArray) (hp : p.size ≤ 9223372036854775807) (a1 a2 a3 a4 a5 a6 : Option Addr) (l1 l2 l3 l4 l5 l6 c1 c2 c3 c4 c5 c6 : Nat) (f1 f3 f4 f6 : Nat → ByteArray) (ka : Nat → Option Addr) (kl kc : Nat → Nat) (ks : Nat → Nat → ByteArray) (nm vl : ByteArray) (pl : Int) (w : World)
    (h1 : RowAt w a1 l1 fun k => .string (f1 k)) (h2 : KeysAt w a2 l2 ka kl kc ks) (h3 : RowAt w a3 l3 fun k => .string (f3 k)) (h4 : RowAt w a4 l4 fun k => .string (f4 k)) (h6 : RowAt w a6 l6 fun k => .string (f6 k))
    (hl1 : l1 ≤ 9223372036854775807) (hl2 : l2 ≤ 9223372036854775807) (hl3 : l3 ≤ 9223372036854775807) (hl4 : l4 ≤ 9223372036854775807) (hl5 : l5 ≤ 9223372036854775807) (hl6 : l6 ≤ 9223372036854775807) (hkl : ∀ k, kl k ≤ 9223372036854775807)
    (hs1 : ∀ k : Nat, (f1 k).size ≤ 9223372036854775807) (hs2 : ∀ k j : Nat, (ks k j).size ≤ 9223372036854775807) (hs3 : ∀ k : Nat, (f3 k).size ≤ 9223372036854775807) (hs4 : ∀ k : Nat, (f4 k).size ≤ 9223372036854775807) (hs6 : ∀ k : Nat, (f6 k).size ≤ 9223372036854775807)
    (hn : nm.size ≤ 9223372036854775807) (hv : vl.size ≤ 9223372036854775807) :
    Calls Try.prog 4 #[.string p, .slice a1 l1 c1, .slice a2 l2 c2, .slice a3 l3 c3, .slice a4 l4 c4, .slice a5 l5 c5, .slice a6 l6 c6, .string nm, .int .i64 pl, .string vl] w fun e w' => IsBool (Small p l1 l2 kl l3 l4 l5 l6 nm vl) e ∧ w' = w := by
  have H1 := hide h1; have H2 := hide h2; have H3 := hide h3; have H4 := hide h4; have H6 := hide h6
  have HS1 := hide hs1; have HS2 := hide hs2; have HS3 := hide hs3; have HS4 := hide hs4; have HS6 := hide hs6; have HKL := hide hkl
  clear h1 h2 h3 h4 h6 hs1 hs2 hs3 hs4 hs6 hkl
  go_enter Try.func4, Try.ntmps4
  go_wp2
  all_goals try (go_ret; exact ⟨isBool_false _, rfl⟩)
  go_loop [21, 22] (fun t i => ∃ (k : Nat) (z : Int), k ≤ l1 ∧ i = .int .i64 k ∧ t = .int .i64 z ∧ 0 ≤ z ∧ z ≤ 1048576) (fun _ i => l1 - (intOf i).toNat)
  case atStart => exact ⟨0, _, Nat.zero_le _, rfl, rfl, by omega, by omega⟩
  case round =>
    obtain ⟨k, z, hk, rfl, rfl, hz0, hz1⟩ := hrel
    by_cases hlt : k < l1
    · rcases unhide H1 with rfl | ⟨b, off, rfl, hc⟩
      · omega
      have hck : w.cell? ⟨b, off + k, none⟩ = some (.string (f1 k)) := hc k hlt
      have hsk := unhide HS1 k
      generalize f1 k = s at hck hsk
      clear hc H1 H2 H3 H4 H6 HS1 HS2 HS3 HS4 HS6 HKL
      go_wp2
      all_goals try (go_ret; exact ⟨isBool_false _, rfl⟩)
      go_round
      case rel => exact ⟨k + 1, z + s.size, by omega, by go_num, rfl, by omega, by omega⟩
      case measure => simp [intOf]; omega
    · clear H1
      go_wp2
      all_goals try (go_ret; exact ⟨isBool_false _, rfl⟩)
      go_loop [21, 23] (fun t i => ∃ (k : Nat) (z : Int), k ≤ l2 ∧ i = .int .i64 k ∧ t = .int .i64 z ∧ 0 ≤ z ∧ z ≤ 1048576 ∧ Hid (∀ j, j < k → kl j ≤ 1048576)) (fun _ i => l2 - (intOf i).toNat)
      case atStart => exact ⟨0, _, Nat.zero_le _, rfl, rfl, by omega, by omega, fun j hj => by omega⟩
      case round =>
        obtain ⟨k, z, hk, rfl, rfl, hz0, hz1, HA⟩ := hrel
        by_cases hlt : k < l2
        · rcases (unhide H2).row with rfl | ⟨b, off, rfl, hc⟩
          · omega
          have hck : w.cell? ⟨b, off + k, none⟩ = some (.slice (ka k) (kl k) (kc k)) := hc k hlt
          have HI := hide ((unhide H2).rows k hlt)
          have hklk := unhide HKL k
          have HA2 : kl k ≤ 1048576 → Hid (∀ j, j < k + 1 → kl j ≤ 1048576) := fun q j hj => by
            by_cases hjk : j < k
            · exact unhide HA j hjk
            · obtain rfl : j = k := by omega
              exact q
          have HA3 := hide HA2
          have HS := hide (unhide HS2 k)
          clear hc H2 HA HA2 H3 H4 H6 HS2 HKL HS1 HS3 HS4 HS6
          generalize ka k = kak at hck HI
          generalize kc k = kck at hck
          generalize ks k = f at HI HS
          obtain ⟨m, hm⟩ : ∃ m, kl k = m := ⟨_, rfl⟩
          rw [hm] at hck HI hklk HA3
          clear hm
          go_wp2
          all_goals try (go_ret; exact ⟨isBool_false _, rfl⟩)
          go_loop [21, 24] (fun t i => ∃ (k : Nat) (z : Int), k ≤ m ∧ i = .int .i64 k ∧ t = .int .i64 z ∧ 0 ≤ z ∧ z ≤ 1048576) (fun _ i => m - (intOf i).toNat)
          case atStart => exact ⟨0, _, Nat.zero_le _, rfl, rfl, by omega, by omega⟩
          case round =>
            clear hz0 hz1
            obtain ⟨j, y, hj, rfl, rfl, hz0, hz1⟩ := hrel
            by_cases hltj : j < m
            · rcases unhide HI with rfl | ⟨b', off', rfl, hc⟩
              · omega
              have hcj : w.cell? ⟨b', off' + j, none⟩ = some (.string (f j)) := hc j hltj
              have hsk := unhide HS j
              generalize f j = s at hcj hsk
              clear hc HI HA3 HS
              go_wp2
              all_goals try (go_ret; exact ⟨isBool_false _, rfl⟩)
              go_round
              case rel => exact ⟨j + 1, y + s.size, by omega, by go_num, rfl, by omega, by omega⟩
              case measure => simp [intOf]; omega
            · clear HI HS
              go_wp2
              go_round
              case rel => exact ⟨k + 1, y, by omega, by go_num, rfl, by omega, by omega, unhide HA3 (by omega)⟩
              case measure => simp [intOf]; omega
        · obtain rfl : k = l2 := by omega
          clear H2 HKL HS2
          go_wp2
          all_goals try (go_ret; exact ⟨isBool_false _, rfl⟩)
          go_loop [21, 25] (fun t i => ∃ (k : Nat) (z : Int), k ≤ l3 ∧ i = .int .i64 k ∧ t = .int .i64 z ∧ 0 ≤ z ∧ z ≤ 1048576) (fun _ i => l3 - (intOf i).toNat)
          case atStart => exact ⟨0, _, Nat.zero_le _, rfl, rfl, by omega, by omega⟩
          case round =>
            obtain ⟨k, z, hk, rfl, rfl, hz0, hz1⟩ := hrel
            by_cases hlt : k < l3
            · rcases unhide H3 with rfl | ⟨b, off, rfl, hc⟩
              · omega
              have hck : w.cell? ⟨b, off + k, none⟩ = some (.string (f3 k)) := hc k hlt
              have hsk := unhide HS3 k
              generalize f3 k = s at hck hsk
              clear hc H3 H4 H6 HS3 HS4 HS6 HA
              go_wp2
              all_goals try (go_ret; exact ⟨isBool_false _, rfl⟩)
              go_round
              case rel => exact ⟨k + 1, z + s.size, by omega, by go_num, rfl, by omega, by omega⟩
              case measure => simp [intOf]; omega
            · clear H3
              go_wp2
              all_goals try (go_ret; exact ⟨isBool_false _, rfl⟩)
              go_loop [21, 26] (fun t i => ∃ (k : Nat) (z : Int), k ≤ l4 ∧ i = .int .i64 k ∧ t = .int .i64 z ∧ 0 ≤ z ∧ z ≤ 1048576) (fun _ i => l4 - (intOf i).toNat)
              case atStart => exact ⟨0, _, Nat.zero_le _, rfl, rfl, by omega, by omega⟩
              case round =>
                obtain ⟨k, z, hk, rfl, rfl, hz0, hz1⟩ := hrel
                by_cases hlt : k < l4
                · rcases unhide H4 with rfl | ⟨b, off, rfl, hc⟩
                  · omega
                  have hck : w.cell? ⟨b, off + k, none⟩ = some (.string (f4 k)) := hc k hlt
                  have hsk := unhide HS4 k
                  generalize f4 k = s at hck hsk
                  clear hc H4 H6 HS4 HS6 HA
                  go_wp2
                  all_goals try (go_ret; exact ⟨isBool_false _, rfl⟩)
                  go_round
                  case rel => exact ⟨k + 1, z + s.size, by omega, by go_num, rfl, by omega, by omega⟩
                  case measure => simp [intOf]; omega
                · clear H4
                  go_wp2
                  all_goals try (go_ret; exact ⟨isBool_false _, rfl⟩)
                  go_loop [21, 27] (fun t i => ∃ (k : Nat) (z : Int), k ≤ l6 ∧ i = .int .i64 k ∧ t = .int .i64 z ∧ 0 ≤ z ∧ z ≤ 1048576) (fun _ i => l6 - (intOf i).toNat)
                  case atStart => exact ⟨0, _, Nat.zero_le _, rfl, rfl, by omega, by omega⟩
                  case round =>
                    obtain ⟨k, z, hk, rfl, rfl, hz0, hz1⟩ := hrel
                    by_cases hlt : k < l6
                    · rcases unhide H6 with rfl | ⟨b, off, rfl, hc⟩
                      · omega
                      have hck : w.cell? ⟨b, off + k, none⟩ = some (.string (f6 k)) := hc k hlt
                      have hsk := unhide HS6 k
                      generalize f6 k = s at hck hsk
                      clear hc H6 HS6 HA
                      go_wp2
                      all_goals try (go_ret; exact ⟨isBool_false _, rfl⟩)
                      go_round
                      case rel => exact ⟨k + 1, z + s.size, by omega, by go_num, rfl, by omega, by omega⟩
                      case measure => simp [intOf]; omega
                    · clear H6
                      go_wp2
                      all_goals try (go_ret; exact ⟨isBool_false _, rfl⟩)
                      go_ret
                      exact ⟨isBool_true ⟨by omega, by omega, by omega, unhide HA, by omega, by omega, by omega, by omega, by omega, by omega⟩, rfl⟩
end Go.Proofs.Qxb6605991a
