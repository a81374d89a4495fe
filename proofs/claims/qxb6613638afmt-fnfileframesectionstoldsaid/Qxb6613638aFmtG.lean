/-
  The walks of slices.IndexFunc at []LeapSecond and of its closure.
-/
import Derived.Test.Qxb6613638aFmtF
namespace Go.Proofs.Qxb6613638aFmt
open Go.RowKit Go.Extern

/-- It handed back whether t does not fit; old memory stands. -/
def Misfit (w : World) (t : Int) (e : Ending) (w' : World) : Prop := e = .returned (.bool (!fits t)) ∧ Below w.heap.size w w'

theorem f43_any (t c : Int) (h0 : -9223372036854775808 ≤ t) (h1 : t ≤ 9223372036854775807) (fc : Nat) (w : World) (hf : w.cell? ⟨fc, 0, none⟩ = some (.func (.func 39) #[] #[])) :
    Calls Tryf.prog 43 #[.agg #[.int .i64 t, .int .i32 c], .pointer (some ⟨fc, 0, none⟩)] w (Misfit w t) := by
  have HC : Hid (∀ wx, Calls Tryf.prog 39 #[.int .i64 t] wx fun e w' => e = .returned (.bool (fits t)) ∧ w' = wx) := fun wx => f39_any t h0 h1 wx
  obtain ⟨W1, hW1⟩ : ∃ W, w.alloc (.cells #[.int .i64 t, .int .i32 c] 92) = W := ⟨_, rfl⟩
  have hb1 : Below w.heap.size w W1 := by rw [← hW1]; exact (Below.refl _ w).alloc (Nat.le_refl _) _
  have q0 : W1.cell? ⟨w.heap.size, 0, none⟩ = some (.int .i64 t) := by rw [← hW1]; exact cell_of_row _ _ 0 _ _ _ (heap_alloc_new w _)
  have q1 : W1.cell? ⟨fc, 0, none⟩ = some (.func (.func 39) #[] #[]) := (hb1.cell (World.block_lt_of_cell? w _ hf)).trans hf
  have HB1 := hide hb1
  clear hb1 hf
  go_enter Tryf.func43, Tryf.ntmps43
  go_wp2_with (go_at_call 39; refine (unhide HC _).mono ?_; rintro e w' ⟨rfl, rfl⟩)
  go_ret
  exact ⟨rfl, unhide HB1⟩

/-- The records from a on: two cells each. -/
def LeapsAt (w : World) (a : Option Addr) (len : Nat) (f g : Nat → Int) : Prop :=
  (len = 0 ∨ ∃ b off, a = some ⟨b, off, none⟩ ∧ ∀ k, k < len → w.cell? ⟨b, off + k * 2, none⟩ = some (.int .i64 (f k)) ∧ w.cell? ⟨b, off + k * 2 + 1, none⟩ = some (.int .i32 (g k))) ∧ ∀ k, -9223372036854775808 ≤ f k ∧ f k ≤ 9223372036854775807

def FoundBadB (w : World) (f : Nat → Int) (len : Nat) (e : Ending) (w' : World) : Prop := FoundBad f len e ∧ Below w.heap.size w w'

set_option maxHeartbeats 400000 in
theorem f42_any (a : Option Addr) (len cap : Nat) (f g : Nat → Int) (hl : len ≤ 1048576) (fc : Nat) (w : World) (h : LeapsAt w a len f g) (hf : w.cell? ⟨fc, 0, none⟩ = some (.func (.func 39) #[] #[])) :
    Calls Tryf.prog 42 #[.slice a len cap, .func (.func 43) #[] #[.pointer (some ⟨fc, 0, none⟩)]] w (FoundBadB w f len) := by
  have HC : Hid (∀ k wx, Below w.heap.size w wx → Calls Tryf.prog 43 #[.agg #[.int .i64 (f k), .int .i32 (g k)], .pointer (some ⟨fc, 0, none⟩)] wx (Misfit wx (f k))) := fun k wx hb => f43_any (f k) (g k) (h.2 k).1 (h.2 k).2 fc wx ((hb.cell (World.block_lt_of_cell? w _ hf)).trans hf)
  have H := hide h.1
  clear h hf
  go_enter Tryf.func42, Tryf.ntmps42
  go_wp2
  go_loopw [8] (fun v wr => ∃ (k : Nat), k ≤ len ∧ v = .int .i64 k ∧ Hid ((∀ q, q < k → fits (f q) = true) ∧ Below w.heap.size w wr)) (fun v _ => len - (intOf v).toNat)
  case atStart => exact ⟨0, Nat.zero_le _, rfl, fun q h => by omega, Below.refl _ _⟩
  case round =>
    obtain ⟨k, hk, rfl, HA⟩ := hrel
    by_cases hlt : k < len
    · rcases unhide H with rfl | ⟨b, off, rfl, hc⟩
      · omega
      obtain ⟨hc1, hc2⟩ := hc k hlt
      have hlb : b < w.heap.size := World.block_lt_of_cell? w _ hc1
      have hck : wr.cell? ⟨b, off + k * 2, none⟩ = some (.int .i64 (f k)) := ((unhide HA).2.cell (p := ⟨b, off + k * 2, none⟩) hlb).trans hc1
      have hck2 : wr.cell? ⟨b, off + k * 2 + 1, none⟩ = some (.int .i32 (g k)) := ((unhide HA).2.cell (p := ⟨b, off + k * 2 + 1, none⟩) hlb).trans hc2
      have HCk := hide (unhide HC k wr (unhide HA).2)
      clear hc H HC hc1 hc2 hlb
      go_wp2_with (go_at_call 43; refine (unhide HCk).mono ?_)
      rintro e w2 ⟨rfl, hb2⟩
      have hb3 : Below w.heap.size w w2 := (unhide HA).2.trans (hb2.mono (unhide HA).2.size)
      have HB3 := hide hb3
      clear hb2 hb3 hck hck2 HCk
      cases hu : fits (f k) with
      | true =>
        have HU := hide hu
        clear hu
        go_wp2
        go_roundw
        case rel =>
          refine ⟨k + 1, by omega, by go_num, fun q h => ?_, unhide HB3⟩
          by_cases hq : q < k
          · exact (unhide HA).1 q hq
          · obtain rfl : q = k := by omega
            exact unhide HU
        case measure => simp [intOf]; omega
      | false =>
        have HU := hide hu
        clear hu
        go_wp2
        go_ret
        exact ⟨⟨_, rfl, .inr ⟨k, rfl, hlt, unhide HU⟩⟩, unhide HB3⟩
    · obtain rfl : k = len := by omega
      clear H HC
      go_wp2
      go_ret
      exact ⟨⟨_, rfl, .inl ⟨rfl, (unhide HA).1⟩⟩, (unhide HA).2⟩
end Go.Proofs.Qxb6613638aFmt
