/-
  The walks of the counting helpers: zzStrsBytes, zzOriginBytes, zzOriginFits.
-/
import Derived.Test.Qxb6605991aB
namespace Go.Proofs.Qxb6605991a
open Go.RowKit

/-- It handed back a number between 0 and m. -/
def IsNum (m : Int) (e : Ending) : Prop := ∃ z : Int, e = .returned (.int .i64 z) ∧ 0 ≤ z ∧ z ≤ m

set_option maxHeartbeats 400000 in
theorem f17_any (a : Option Addr) (len cap : Nat) (f : Nat → ByteArray) (w : World) (h : RowAt w a len fun k => .string (f k)) (hl : len ≤ 1048576) (hs : ∀ k : Nat, (f k).size ≤ 9223372036854775807) :
    Calls Try.prog 17 #[.slice a len cap] w fun e w' => IsNum 10000000 e ∧ w' = w := by
  go_enter Try.func17, Try.ntmps17
  go_wp2
  go_loop [3, 4] (fun t i => ∃ (k : Nat) (z : Int), k ≤ len ∧ i = .int .i64 k ∧ t = .int .i64 z ∧ 0 ≤ z ∧ z ≤ 10000000) (fun _ i => len - (intOf i).toNat)
  case atStart => exact ⟨0, 8 * len, Nat.zero_le _, rfl, rfl, by omega, by omega⟩
  case round =>
    obtain ⟨k, z, hk, rfl, rfl, hz0, hz1⟩ := hrel
    by_cases hlt : k < len
    · rcases h with rfl | ⟨b, off, rfl, hc⟩
      · omega
      have hck : w.cell? ⟨b, off + k, none⟩ = some (.string (f k)) := hc k (by omega)
      have hsk := hs k
      generalize f k = s at hck hsk
      clear hc hs
      by_cases hbig : (1048576 : Int) < z
      · go_wp2
        go_ret
        exact ⟨⟨_, rfl, by omega, by omega⟩, rfl⟩
      · by_cases hbig2 : (1048576 : Int) < (s.size : Int)
        · go_wp2
          go_ret
          exact ⟨⟨_, rfl, by omega, by omega⟩, rfl⟩
        · go_wp2
          go_round
          case rel => exact ⟨k + 1, z + s.size, by omega, by go_num, rfl, by omega, by omega⟩
          case measure => simp [intOf]; omega
    · clear h hs
      go_wp2
      go_ret
      exact ⟨⟨_, rfl, by omega, by omega⟩, rfl⟩

/-- The keys of the tables: a row of slices, each a row of strings. -/
structure KeysAt (w : World) (a : Option Addr) (len : Nat) (ka : Nat → Option Addr) (kl kc : Nat → Nat) (ks : Nat → Nat → ByteArray) : Prop where
  row : RowAt w a len fun k => .slice (ka k) (kl k) (kc k)
  rows : ∀ k, k < len → RowAt w (ka k) (kl k) fun j => .string (ks k j)

set_option maxHeartbeats 800000 in
theorem f15_any (p : ByteArray) (hp : p.size ≤ 1048576) (a1 a2 a3 a4 a5 a6 : Option Addr) (l1 l2 l3 l4 l5 l6 c1 c2 c3 c4 c5 c6 : Nat) (f1 f3 f4 f6 : Nat → ByteArray) (ka : Nat → Option Addr) (kl kc : Nat → Nat) (ks : Nat → Nat → ByteArray) (w : World)
    (h1 : RowAt w a1 l1 fun k => .string (f1 k)) (h2 : KeysAt w a2 l2 ka kl kc ks) (h3 : RowAt w a3 l3 fun k => .string (f3 k)) (h4 : RowAt w a4 l4 fun k => .string (f4 k)) (h6 : RowAt w a6 l6 fun k => .string (f6 k))
    (hl1 : l1 ≤ 1048576) (hl2 : l2 ≤ 1048576) (hl3 : l3 ≤ 1048576) (hl4 : l4 ≤ 1048576) (hl5 : l5 ≤ 1048576) (hl6 : l6 ≤ 1048576) (hkl : ∀ k, k < l2 → kl k ≤ 1048576)
    (hs1 : ∀ k : Nat, (f1 k).size ≤ 9223372036854775807) (hs2 : ∀ k j : Nat, (ks k j).size ≤ 9223372036854775807) (hs3 : ∀ k : Nat, (f3 k).size ≤ 9223372036854775807) (hs4 : ∀ k : Nat, (f4 k).size ≤ 9223372036854775807) (hs6 : ∀ k : Nat, (f6 k).size ≤ 9223372036854775807) :
    Calls Try.prog 15 #[.string p, .slice a1 l1 c1, .slice a2 l2 c2, .slice a3 l3 c3, .slice a4 l4 c4, .slice a5 l5 c5, .slice a6 l6 c6] w fun e w' => IsNum 1000000000 e ∧ w' = w := by
  have H1 := hide (f17_any a1 l1 c1 f1 w h1 hl1 hs1)
  have H3 := hide (f17_any a3 l3 c3 f3 w h3 hl3 hs3)
  have H4 := hide (f17_any a4 l4 c4 f4 w h4 hl4 hs4)
  have H6 := hide (f17_any a6 l6 c6 f6 w h6 hl6 hs6)
  clear h1 h3 h4 h6 hs1 hs3 hs4 hs6
  have HK := hide (fun k hk => f17_any (ka k) (kl k) (kc k) (ks k) w (h2.rows k hk) (hkl k hk) (hs2 k))
  have HR := hide h2.row
  clear h2 hkl hs2
  go_enter Try.func15, Try.ntmps15
  go_wp2_with (go_at_call 17; refine (unhide H1).mono ?_)
  rintro e w' ⟨⟨z1, rfl, hz1, hz1'⟩, rfl⟩
  clear H1
  go_wp2_with (go_at_call 17; refine (unhide H3).mono ?_)
  rintro e w'' ⟨⟨z3, rfl, hz3, hz3'⟩, rfl⟩
  clear H3
  go_wp2_with (go_at_call 17; refine (unhide H4).mono ?_)
  rintro e w' ⟨⟨z4, rfl, hz4, hz4'⟩, rfl⟩
  clear H4
  go_wp2_with (go_at_call 17; refine (unhide H6).mono ?_)
  rintro e w'' ⟨⟨z6, rfl, hz6, hz6'⟩, rfl⟩
  clear H6
  go_wp2
  obtain ⟨w, hw⟩ : ∃ x, x = w'' := ⟨_, rfl⟩
  subst hw
  go_loop [15, 16] (fun t i => ∃ (k : Nat) (z : Int), k ≤ l2 ∧ i = .int .i64 k ∧ t = .int .i64 z ∧ 0 ≤ z ∧ z ≤ 100000000) (fun _ i => l2 - (intOf i).toNat)
  case atStart => exact ⟨0, _, Nat.zero_le _, rfl, rfl, by omega, by omega⟩
  case round =>
    obtain ⟨k, z, hk, rfl, rfl, hz0, hzm⟩ := hrel
    clear hz1 hz1' hz3 hz3' hz4 hz4' hz6 hz6' hl1 hl3 hl4 hl5 hl6 hp
    by_cases hlt : k < l2
    · rcases unhide HR with rfl | ⟨b, off, rfl, hc⟩
      · omega
      have hck : w.cell? ⟨b, off + k, none⟩ = some (.slice (ka k) (kl k) (kc k)) := hc k hlt
      have HK' := hide (unhide HK k hlt)
      clear hc HR HK
      generalize ka k = kak at hck HK'
      generalize kl k = klk at hck HK'
      generalize kc k = kck at hck HK'
      by_cases hbig : (1048576 : Int) < z
      · go_wp2
        go_ret
        exact ⟨⟨_, rfl, by omega, by omega⟩, rfl⟩
      · go_wp2_with (go_at_call 17; refine (unhide HK').mono ?_; rintro e w' ⟨⟨zk, rfl, hzk, hzk'⟩, rfl⟩)
        go_round
        case rel => exact ⟨k + 1, z + zk, by omega, by go_num, rfl, by omega, by omega⟩
        case measure => simp [intOf]; omega
    · clear HR HK
      go_wp2
      go_ret
      exact ⟨⟨_, rfl, by omega, by omega⟩, rfl⟩

set_option maxHeartbeats 800000 in
theorem f5_any (x : Int) (hx0 : 0 ≤ x) (hx1 : x ≤ 4194304) (p : ByteArray) (hp : p.size ≤ 1048576) (a1 a2 a3 a4 a5 a6 : Option Addr) (l1 l2 l3 l4 l5 l6 c1 c2 c3 c4 c5 c6 : Nat) (f1 f3 f4 f6 : Nat → ByteArray) (ka : Nat → Option Addr) (kl kc : Nat → Nat) (ks : Nat → Nat → ByteArray) (w : World)
    (h1 : RowAt w a1 l1 fun k => .string (f1 k)) (h2 : KeysAt w a2 l2 ka kl kc ks) (h3 : RowAt w a3 l3 fun k => .string (f3 k)) (h4 : RowAt w a4 l4 fun k => .string (f4 k)) (h6 : RowAt w a6 l6 fun k => .string (f6 k))
    (hl1 : l1 ≤ 1048576) (hl2 : l2 ≤ 1048576) (hl3 : l3 ≤ 1048576) (hl4 : l4 ≤ 1048576) (hl5 : l5 ≤ 1048576) (hl6 : l6 ≤ 1048576) (hkl : ∀ k, k < l2 → kl k ≤ 1048576)
    (hs1 : ∀ k : Nat, (f1 k).size ≤ 9223372036854775807) (hs2 : ∀ k j : Nat, (ks k j).size ≤ 9223372036854775807) (hs3 : ∀ k : Nat, (f3 k).size ≤ 9223372036854775807) (hs4 : ∀ k : Nat, (f4 k).size ≤ 9223372036854775807) (hs6 : ∀ k : Nat, (f6 k).size ≤ 9223372036854775807) :
    Calls Try.prog 5 #[.int .i64 x, .string p, .slice a1 l1 c1, .slice a2 l2 c2, .slice a3 l3 c3, .slice a4 l4 c4, .slice a5 l5 c5, .slice a6 l6 c6] w fun e w' => IsBool (l2 = l1 ∧ l5 = l4 ∧ l6 = l4) e ∧ w' = w := by
  have H := hide (f15_any p hp a1 a2 a3 a4 a5 a6 l1 l2 l3 l4 l5 l6 c1 c2 c3 c4 c5 c6 f1 f3 f4 f6 ka kl kc ks w h1 h2 h3 h4 h6 hl1 hl2 hl3 hl4 hl5 hl6 hkl hs1 hs2 hs3 hs4 hs6)
  clear h1 h2 h3 h4 h6 hs1 hs2 hs3 hs4 hs6 hkl
  by_cases hx : (1048576 : Int) < x
  · go_enter Try.func5, Try.ntmps5
    go_wp2
    go_ret
    exact ⟨isBool_false _, rfl⟩
  · by_cases q1 : l2 = l1
    · by_cases q2 : l5 = l4
      · by_cases q3 : l6 = l4
        · subst q1 q2 q3
          go_enter Try.func5, Try.ntmps5
          go_wp2_with (go_at_call 15; refine (unhide H).mono ?_; rintro e w' ⟨⟨z, rfl, hz, hz'⟩, rfl⟩)
          · go_ret
            exact ⟨isBool_false _, rfl⟩
          · go_ret
            exact ⟨isBool_true (by simp), rfl⟩
        · subst q1 q2
          have q3' : ((l6 : Int) == (l5 : Int)) = false := by simp; omega
          go_enter Try.func5, Try.ntmps5
          go_wp2_with (go_at_call 15; refine (unhide H).mono ?_; rintro e w' ⟨⟨z, rfl, hz, hz'⟩, rfl⟩)
          · go_ret
            exact ⟨isBool_false _, rfl⟩
          · go_ret
            exact ⟨isBool_false _, rfl⟩
      · subst q1
        have q3' : ((l5 : Int) == (l4 : Int)) = false := by simp; omega
        go_enter Try.func5, Try.ntmps5
        go_wp2_with (go_at_call 15; refine (unhide H).mono ?_; rintro e w' ⟨⟨z, rfl, hz, hz'⟩, rfl⟩)
        · go_ret
          exact ⟨isBool_false _, rfl⟩
        · go_ret
          exact ⟨isBool_false _, rfl⟩
    · have q3' : ((l2 : Int) == (l1 : Int)) = false := by simp; omega
      go_enter Try.func5, Try.ntmps5
      go_wp2_with (go_at_call 15; refine (unhide H).mono ?_; rintro e w' ⟨⟨z, rfl, hz, hz'⟩, rfl⟩)
      · go_ret
        exact ⟨isBool_false _, rfl⟩
      · go_ret
        exact ⟨isBool_false _, rfl⟩
end Go.Proofs.Qxb6605991a
