/-
  The walks of ZZAnchorEnd, ZZURIEnd and of the law.
-/
import Derived.Test.Qxb6612596aB
namespace Go.Proofs.Qxb6612596a
open Go.RowKit

theorem BytesAt.below {w w' : World} {a : Option Addr} {len : Nat} {f : Nat → Int} (h : BytesAt w a len f) (hb : Below w.heap.size w w') : BytesAt w' a len f := by
  rcases h with h | ⟨b, off, h1, h2⟩
  · exact .inl h
  · exact .inr ⟨b, off, h1, fun k hk => (hb.cell (World.block_lt_of_cell? w _ (h2 k hk))).trans (h2 k hk)⟩

def EndedB (w : World) (t : Int → Bool) (f : Nat → Int) (i l : Nat) (e : Ending) (w' : World) : Prop := Ended t f i l e ∧ Below w.heap.size w w'

theorem at_new (w : World) (cs : Array Value) (t : TypeId) (v : Value) (h : cs[0]? = some v) : (w.alloc (.cells cs t)).cell? ⟨w.heap.size, 0, none⟩ = some v := by
  rw [cell_of_row _ _ _ _ _ _ (heap_alloc_new w _)]; exact h

theorem f6_any (a : Option Addr) (len cap : Nat) (f : Nat → Int) (i l : Nat) (hil : i ≤ l) (hl : l ≤ len) (hlen : len ≤ 1048576) (w : World) (h : BytesAt w a len f) :
    Calls Try.prog 6 #[.slice a len cap, .int .i64 i, .int .i64 l] w (EndedB w anc f i l) := by
  have HC : Hid (∀ (cs : Array Value) (t : TypeId), cs[0]? = some (.slice a len cap) → Calls Try.prog 10 #[.pointer (some ⟨w.heap.size, 0, none⟩), .int .i64 i, .int .i64 l] (w.alloc (.cells cs t)) fun e w' => Ended anc f i l e ∧ w' = w.alloc (.cells cs t)) :=
    fun cs t hcs => f10_any w.heap.size a len cap f i l hil hl hlen _ (at_new w cs t _ hcs) (h.below ((Below.refl _ w).alloc (Nat.le_refl _) _))
  clear h hil
  go_enter Try.func6, Try.ntmps6
  go_wp2_with (go_at_call 10; refine (unhide HC _ _ rfl).mono ?_)
  rintro e w' ⟨⟨j, rfl, hj⟩, hw⟩
  have HJ := hide hj
  clear hj HC
  have HB : Hid (Below w.heap.size w w') := by rw [hw]; exact (Below.refl _ w).alloc (Nat.le_refl _) _
  clear hw
  go_wp2
  go_ret
  exact ⟨⟨j, rfl, unhide HJ⟩, unhide HB⟩

theorem f9_any (a : Option Addr) (len cap : Nat) (f : Nat → Int) (i : Nat) (hil : i ≤ len) (hlen : len ≤ 1048576) (w : World) (h : BytesAt w a len f) :
    Calls Try.prog 9 #[.slice a len cap, .int .i64 i] w (EndedB w uri f i len) := by
  have HC : Hid (∀ (cs : Array Value) (t : TypeId), cs[0]? = some (.slice a len cap) → Calls Try.prog 11 #[.pointer (some ⟨w.heap.size, 0, none⟩), .int .i64 i] (w.alloc (.cells cs t)) fun e w' => Ended uri f i len e ∧ w' = w.alloc (.cells cs t)) :=
    fun cs t hcs => f11_any w.heap.size a len cap f i hil hlen _ (at_new w cs t _ hcs) (h.below ((Below.refl _ w).alloc (Nat.le_refl _) _))
  clear h hil
  go_enter Try.func9, Try.ntmps9
  go_wp2_with (go_at_call 11; refine (unhide HC _ _ rfl).mono ?_)
  rintro e w' ⟨⟨j, rfl, hj⟩, hw⟩
  have HJ := hide hj
  clear hj HC
  have HB : Hid (Below w.heap.size w w') := by rw [hw]; exact (Below.refl _ w).alloc (Nat.le_refl _) _
  clear hw
  go_wp2
  go_ret
  exact ⟨⟨j, rfl, unhide HJ⟩, unhide HB⟩

/-- Where the end is sought no further than l, it is the lesser of the two. -/
theorem ends_min {t : Int → Bool} {f : Nat → Int} {i l n j k : Nat} (hl : l ≤ n) (h1 : EndsAt t f i n j) (h2 : EndsAt t f i l k) : k = min j l := by
  obtain ⟨a1, a2, a3, a4⟩ := h1
  obtain ⟨b1, b2, b3, b4⟩ := h2
  by_cases hjl : j ≤ l
  · rw [Nat.min_eq_left hjl]
    rcases Nat.lt_trichotomy k j with h | h | h
    · rcases b4 with b4 | b4
      · omega
      · have := a3 k b1 h; rw [b4] at this; cases this
    · exact h
    · rcases a4 with a4 | a4
      · omega
      · have := b3 j a1 h; rw [a4] at this; cases this
  · rw [Nat.min_eq_right (by omega)]
    rcases b4 with b4 | b4
    · exact b4
    · have := a3 k b1 (by omega); rw [b4] at this; cases this
theorem ends_le {t u : Int → Bool} (htu : ∀ c, t c = true → u c = true) {f : Nat → Int} {i n j k : Nat} (h1 : EndsAt t f i n j) (h2 : EndsAt u f i n k) : j ≤ k := by
  obtain ⟨a1, a2, a3, a4⟩ := h1
  obtain ⟨b1, b2, b3, b4⟩ := h2
  by_cases h : j ≤ k
  · exact h
  · rcases b4 with b4 | b4
    · omega
    · have := htu _ (a3 k b1 (by omega)); rw [b4] at this; cases this
end Go.Proofs.Qxb6612596a
