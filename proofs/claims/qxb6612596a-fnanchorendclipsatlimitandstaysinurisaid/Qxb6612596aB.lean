/-
  The walks of the two scanners.
-/
import Derived.Test.Qxb6612596aA
import Derived.Test.Qxb6612596aShelf
namespace Go.Proofs.Qxb6612596a
open Go.RowKit

def marks : ByteArray := { data := #[95, 59, 47, 63, 58, 64, 38, 61, 43, 36, 44, 46, 33, 126, 42, 39, 40, 41, 91, 93, 37] }
/-- What a tag's URI may hold. -/
def uri (c : Int) : Bool := word c || decide (0 ≤ Lib.indexByte marks.data.toList c.toNat.toUInt8)

theorem uri_of_anc (c : Int) (h : anc c = true) : uri c = true := by
  unfold anc at h
  unfold uri
  rcases Bool.or_eq_true_iff.1 h with h | h
  · rw [h]; rfl
  · obtain rfl : c = 95 := by simpa using h
    decide

theorem f13_any (c : Int) (w : World) : Calls Try.prog 13 #[.int .u8 c] w fun e w' => e = .returned (.bool (uri c)) ∧ w' = w := by
  have HW := hide (f12_any c w)
  have HI := hide (show Calls Try.prog 14 #[.string { data := #[95, 59, 47, 63, 58, 64, 38, 61, 43, 36, 44, 46, 33, 126, 42, 39, 40, 41, 91, 93, 37] }, .int .u8 c] w fun e w' => e = .returned (.int .i64 (Lib.indexByte marks.data.toList c.toNat.toUInt8)) ∧ w' = w from Try.strings_IndexByte marks c w)
  have hu : uri c = (word c || decide (0 ≤ Lib.indexByte marks.data.toList c.toNat.toUInt8)) := rfl
  rw [hu]
  clear hu
  generalize word c = b at *
  generalize Lib.indexByte marks.data.toList c.toNat.toUInt8 = z at *
  cases b with
  | true =>
    go_enter Try.func13, Try.ntmps13
    go_wp2_with (go_at_call 12; refine (unhide HW).mono ?_; rintro e w' ⟨rfl, rfl⟩)
    go_ret
    exact ⟨rfl, rfl⟩
  | false =>
    go_enter Try.func13, Try.ntmps13
    go_wp2_with (first | (go_at_call 12; refine (unhide HW).mono ?_; rintro e w' ⟨rfl, rfl⟩) | (go_at_call 14; refine (unhide HI).mono ?_; rintro e w' ⟨rfl, rfl⟩))
    go_ret
    exact ⟨by simp, rfl⟩

/-- The bytes from a on. -/
def BytesAt (w : World) (a : Option Addr) (len : Nat) (f : Nat → Int) : Prop :=
  len = 0 ∨ ∃ b off, a = some ⟨b, off, none⟩ ∧ ∀ k, k < len → w.cell? ⟨b, off + k, none⟩ = some (.int .u8 (f k))

/-- j is where the bytes of kind t that begin at i end, no further than l. -/
def EndsAt (t : Int → Bool) (f : Nat → Int) (i l j : Nat) : Prop := i ≤ j ∧ j ≤ l ∧ (∀ k, i ≤ k → k < j → t (f k) = true) ∧ (j = l ∨ t (f j) = false)

def Ended (t : Int → Bool) (f : Nat → Int) (i l : Nat) (e : Ending) : Prop := ∃ j, e = .returned (.int .i64 (j : Nat)) ∧ EndsAt t f i l j

set_option maxHeartbeats 400000 in
theorem f10_any (pb : Nat) (a : Option Addr) (len cap : Nat) (f : Nat → Int) (i l : Nat) (hil : i ≤ l) (hl : l ≤ len) (hlen : len ≤ 1048576) (w : World) (hp : w.cell? ⟨pb, 0, none⟩ = some (.slice a len cap)) (h : BytesAt w a len f) :
    Calls Try.prog 10 #[.pointer (some ⟨pb, 0, none⟩), .int .i64 i, .int .i64 l] w fun e w' => Ended anc f i l e ∧ w' = w := by
  have H := hide h
  have HI := hide hil
  clear h
  go_enter Try.func10, Try.ntmps10
  go_wp2
  go_loop [1] (fun v => ∃ (k : Nat), k ≤ l ∧ v = .int .i64 k ∧ Hid (i ≤ k ∧ ∀ q, i ≤ q → q < k → anc (f q) = true)) (fun v => l - (intOf v).toNat)
  case atStart => exact ⟨i, unhide HI, rfl, Nat.le_refl _, fun q h1 h2 => by omega⟩
  case round =>
    obtain ⟨k, hk, rfl, HA⟩ := hrel
    clear HI hil
    by_cases hlt : k < l
    · rcases unhide H with rfl | ⟨b, off, rfl, hc⟩
      · omega
      have hck := hc k (by omega)
      have HW := hide (f12_any (f k) w)
      have HAN := hide (show anc (f k) = (word (f k) || f k == 95) from rfl)
      obtain ⟨c, hcf⟩ : ∃ c, f k = c := ⟨_, rfl⟩
      rw [hcf] at hck HW HAN
      have HCF := hide hcf
      clear hc H hcf
      generalize word c = b at *
      cases b with
      | true =>
        go_wp2_with (go_at_call 12; refine (unhide HW).mono ?_; rintro e w' ⟨rfl, rfl⟩)
        go_round
        case rel =>
          refine ⟨k + 1, by omega, by go_num, Nat.le_succ_of_le (unhide HA).1, fun q h1 h2 => ?_⟩
          by_cases hq : q < k
          · exact (unhide HA).2 q h1 hq
          · obtain rfl : q = k := by omega
            rw [unhide HCF, unhide HAN]; rfl
        case measure => simp [intOf]; omega
      | false =>
        by_cases h95 : c = 95
        · have h95' : (c == 95) = true := by simp [h95]
          have H95 := hide h95
          clear h95
          go_wp2_with (go_at_call 12; refine (unhide HW).mono ?_; rintro e w' ⟨rfl, rfl⟩)
          go_round
          case rel =>
            refine ⟨k + 1, by omega, by go_num, Nat.le_succ_of_le (unhide HA).1, fun q h1 h2 => ?_⟩
            by_cases hq : q < k
            · exact (unhide HA).2 q h1 hq
            · obtain rfl : q = k := by omega
              rw [unhide HCF, unhide HAN, unhide H95]; rfl
          case measure => simp [intOf]; omega
        · have h95' : (c == 95) = false := by simp [h95]
          have H95 := hide h95'
          go_wp2_with (go_at_call 12; refine (unhide HW).mono ?_; rintro e w' ⟨rfl, rfl⟩)
          go_ret
          exact ⟨⟨k, rfl, (unhide HA).1, by omega, (unhide HA).2, .inr (by rw [unhide HCF, unhide HAN, unhide H95]; rfl)⟩, rfl⟩
    · obtain rfl : k = l := by omega
      clear H
      go_wp2
      go_ret
      exact ⟨⟨k, rfl, (unhide HA).1, Nat.le_refl _, (unhide HA).2, .inl rfl⟩, rfl⟩

set_option maxHeartbeats 400000 in
theorem f11_any (pb : Nat) (a : Option Addr) (len cap : Nat) (f : Nat → Int) (i : Nat) (hil : i ≤ len) (hlen : len ≤ 1048576) (w : World) (hp : w.cell? ⟨pb, 0, none⟩ = some (.slice a len cap)) (h : BytesAt w a len f) :
    Calls Try.prog 11 #[.pointer (some ⟨pb, 0, none⟩), .int .i64 i] w fun e w' => Ended uri f i len e ∧ w' = w := by
  have H := hide h
  have HI := hide hil
  clear h
  go_enter Try.func11, Try.ntmps11
  go_wp2
  go_loop [1] (fun v => ∃ (k : Nat), k ≤ len ∧ v = .int .i64 k ∧ Hid (i ≤ k ∧ ∀ q, i ≤ q → q < k → uri (f q) = true)) (fun v => len - (intOf v).toNat)
  case atStart => exact ⟨i, unhide HI, rfl, Nat.le_refl _, fun q h1 h2 => by omega⟩
  case round =>
    obtain ⟨k, hk, rfl, HA⟩ := hrel
    clear HI hil
    by_cases hlt : k < len
    · rcases unhide H with rfl | ⟨b, off, rfl, hc⟩
      · omega
      have hck := hc k (by omega)
      have HW := hide (f13_any (f k) w)
      have HAN := hide (rfl : uri (f k) = uri (f k))
      obtain ⟨c, hcf⟩ : ∃ c, f k = c := ⟨_, rfl⟩
      rw [hcf] at hck HW
      have HCF := hide hcf
      clear hc H hcf HAN
      obtain ⟨u, hu⟩ : ∃ u, uri c = u := ⟨_, rfl⟩
      rw [hu] at HW
      have HU := hide hu
      clear hu
      cases u with
      | true =>
        go_wp2_with (go_at_call 13; refine (unhide HW).mono ?_; rintro e w' ⟨rfl, rfl⟩)
        go_round
        case rel =>
          refine ⟨k + 1, by omega, by go_num, Nat.le_succ_of_le (unhide HA).1, fun q h1 h2 => ?_⟩
          by_cases hq : q < k
          · exact (unhide HA).2 q h1 hq
          · obtain rfl : q = k := by omega
            rw [unhide HCF, unhide HU]
        case measure => simp [intOf]; omega
      | false =>
        go_wp2_with (go_at_call 13; refine (unhide HW).mono ?_; rintro e w' ⟨rfl, rfl⟩)
        go_ret
        exact ⟨⟨k, rfl, (unhide HA).1, by omega, (unhide HA).2, .inr (by rw [unhide HCF, unhide HU])⟩, rfl⟩
    · obtain rfl : k = len := by omega
      clear H
      go_wp2
      go_ret
      exact ⟨⟨k, rfl, (unhide HA).1, Nat.le_refl _, (unhide HA).2, .inl rfl⟩, rfl⟩
end Go.Proofs.Qxb6612596a
