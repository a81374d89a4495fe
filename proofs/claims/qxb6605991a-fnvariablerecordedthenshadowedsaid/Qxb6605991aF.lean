/-
  The walk of zzCloneKeys.
-/
import Derived.Test.Qxb6605991aC
namespace Go.Proofs.Qxb6605991a
open Go.RowKit

/-- The clone behind k rounds: a block of len cells, of which the first k are clones. -/
structure Cloning (w0 wr : World) (g len : Nat) (kl : Nat → Nat) (ks : Nat → Nat → ByteArray) (k : Nat) (F : Nat → Value) (ka : Nat → Option Addr) (kc : Nat → Nat) : Prop where
  below : Below g w0 wr
  lt : g < wr.heap.size
  cells : ∀ j, j < len → wr.cell? ⟨g, j, none⟩ = some (F j) ∧ wr.frozen? ⟨g, j, none⟩ = false
  done : ∀ j, j < k → F j = .slice (ka j) (kl j) (kc j)
  rows : ∀ j, j < k → RowAt wr (ka j) (kl j) (fun i => .string (ks j i)) ∧ (∀ x, ka j = some x → g < x.block)

/-- It handed back clones of the keys in memory of its own. -/
def HandedKeys (w : World) (len : Nat) (kl : Nat → Nat) (ks : Nat → Nat → ByteArray) (e : Ending) (w' : World) : Prop :=
  ∃ a' cap' ka kc, e = .returned (.slice a' len cap') ∧ KeysAt w' a' len ka kl kc ks ∧ Below w.heap.size w w'

theorem RowAt.set {w : World} {a : Option Addr} {len : Nat} {F : Nat → Value} (h : RowAt w a len F) {p : Addr} (v : Value) (hp : ∀ x, a = some x → x.block ≠ p.block) : RowAt (w.setCell p v) a len F := by
  rcases h with h | ⟨b, off, h1, h2⟩
  · exact .inl h
  · refine .inr ⟨b, off, h1, fun k hk => ?_⟩
    rw [World.cell?_setCell_other]
    · exact h2 k hk
    · intro e
      exact hp _ h1 (by rw [e])

theorem Cloning.step {w0 wr w1 : World} {g len : Nat} {kl : Nat → Nat} {ks : Nat → Nat → ByteArray} {k : Nat} {F : Nat → Value} {ka : Nat → Option Addr} {kc : Nat → Nat} (h : Cloning w0 wr g len kl ks k F ka kc) (hk : k < len)
    {a' : Option Addr} {c' : Nat} (hr : RowAt w1 a' (kl k) fun i => .string (ks k i)) (hb : Below wr.heap.size wr w1) (ha : ∀ x, a' = some x → wr.heap.size ≤ x.block) :
    Cloning w0 (w1.setCell ⟨g, k, none⟩ (.slice a' (kl k) c')) g len kl ks (k + 1) (ext F k (.slice a' (kl k) c')) (ext ka k a') (ext kc k c') := by
  have hlt := h.lt
  have hc1 : ∀ j, j < len → w1.cell? ⟨g, j, none⟩ = some (F j) ∧ w1.frozen? ⟨g, j, none⟩ = false := fun j hj => by
    rw [hb.cell (p := ⟨g, j, none⟩) hlt, hb.frozen (p := ⟨g, j, none⟩) hlt]
    exact h.cells j hj
  refine ⟨(h.below.trans (hb.mono (Nat.le_of_lt hlt))).setCell (p := ⟨g, k, none⟩) (Nat.le_refl _) _, by have := hb.size; simp [World.setCell]; omega, fun j hj => ⟨?_, ?_⟩, fun j hj => ?_, fun j hj => ?_⟩
  · unfold ext
    by_cases hjk : j = k
    · subst hjk
      rw [if_pos rfl]
      exact World.cell?_setCell_same' _ _ _ (by rw [(hc1 j hj).1]; rfl)
    · rw [if_neg hjk, World.cell?_setCell_other _ _ _ _ (by simp)]
      exact (hc1 j hj).1
  · rw [World.frozen?_setCell]
    exact (hc1 j hj).2
  · unfold ext
    by_cases hjk : j = k
    · subst hjk; simp
    · simp only [if_neg hjk]
      exact h.done j (by omega)
  · unfold ext
    by_cases hjk : j = k
    · subst hjk
      simp only [if_true]
      refine ⟨hr.set _ fun x hx => ?_, fun x hx => ?_⟩
      · have := ha x hx; show x.block ≠ g; omega
      · have := ha x hx; omega
    · simp only [if_neg hjk]
      obtain ⟨r1, r2⟩ := h.rows j (by omega)
      refine ⟨(r1.below hb (Nat.le_refl _)).set _ fun x hx => ?_, r2⟩
      have := r2 x hx
      show x.block ≠ g
      omega

set_option maxHeartbeats 400000 in
theorem f7_any (a : Option Addr) (len cap : Nat) (ka : Nat → Option Addr) (kl kc : Nat → Nat) (ks : Nat → Nat → ByteArray) (w : World) (h : KeysAt w a len ka kl kc ks) (hl : len ≤ 1048577) (hkl : ∀ k, k < len → kl k ≤ 1048576) :
    Calls Try.prog 7 #[.slice a len cap] w (HandedKeys w len kl ks) := by
  have hq := fun w => Lib.run_eql_slice_nil (P := Try.prog) w 23 22 a len cap 0 0 Try.underlying23
  cases a with
  | none =>
    obtain rfl := h.row.nil
    clear h hkl
    go_enter Try.func7, Try.ntmps7
    go_wp2
    go_ret
    exact ⟨_, _, ka, kc, rfl, ⟨.inl rfl, fun k hk => by omega⟩, Below.refl _ _⟩
  | some a =>
    obtain ⟨i0, hi, hz0, hz1, hz2⟩ := info_parts Try.info22
    have H := hide h
    have HKL := hide hkl
    clear h hkl
    go_enter Try.func7, Try.ntmps7
    go_wp2_with (at_make; refine wpList_make_full _ rfl _ _ 23 rfl w.heap.size 22 i0 _ 1 Try.underlying23 hi hz0 hz1 _ _ _ _ len rfl rfl rfl rfl (by rw [hz2]; omega) (by unfold maxLen; omega) (Nat.le_refl _) ?_)
    intro w1 hown hgrow
    obtain ⟨_, _, cur, hg, _, hcs, _⟩ := row_of_owns hown
    have hb1 : Below w.heap.size w w1 := (Below.refl _ w).grown hgrow (Nat.le_refl _) (fun k e => by cases e)
    have hst : Hid (Cloning w w1 w.heap.size len kl ks 0 (fun j => cur[j]?.getD undef) ka kc) := by
      refine ⟨hb1, (hown.lt _ rfl).2, fun j hj => ⟨?_, ?_⟩, fun j hj => by omega, fun j hj => by omega⟩
      · rw [cell_of_row _ _ _ _ _ _ hg, Array.getElem?_eq_getElem (by omega)]; rfl
      · simp only [World.frozen?, hg]; simp
    clear hi hz0 hz1 hz2 hown hgrow hg hcs hb1
    go_wp2
    go_loopw [4] (fun i wr => ∃ (k : Nat) (F : Nat → Value) (ka' : Nat → Option Addr) (kc' : Nat → Nat), k ≤ len ∧ i = .int .i64 k ∧ Hid (Cloning w wr w.heap.size len kl ks k F ka' kc')) (fun i _ => len - (intOf i).toNat)
    case atStart => exact ⟨0, _, _, _, Nat.zero_le _, rfl, hst⟩
    case round =>
      obtain ⟨k, F, ka', kc', hk, rfl, hcl⟩ := hrel
      clear hst
      by_cases hlt : k < len
      · have hb := (unhide hcl).below
        rcases (unhide H).row with rfl | ⟨b, off, he, hc⟩
        · omega
        cases he
        have hck : wr.cell? ⟨b, off + k, none⟩ = some (.slice (ka k) (kl k) (kc k)) := (hb.cell (World.block_lt_of_cell? w _ (hc k hlt))).trans (hc k hlt)
        have hrk := ((unhide H).rows k hlt).below hb (Nat.le_refl _)
        have HC := hide (f6_any (ka k) (kl k) (kc k) _ wr hrk (fun _ _ => rfl) (by have := unhide HKL k hlt; omega))
        have hsz := (unhide hcl).lt
        clear hb hc hrk H HKL
        generalize hka : ka k = kak at hck HC
        generalize hkc : kc k = kck at hck HC
        clear hka hkc
        obtain ⟨m, hm⟩ : ∃ m, m = kl k := ⟨_, rfl⟩
        rw [← hm] at hck HC
        have HM := hide hm
        clear hm
        go_wp2_with (go_at_call 6; refine (unhide HC).mono ?_)
        rintro e w2 ⟨a', c', rfl, hr2, hb2, ha2⟩
        obtain ⟨hce, hfr⟩ := (unhide hcl).cells k hlt
        have hce2 : w2.cell? ⟨w.heap.size, k, none⟩ = some (F k) := (hb2.cell (p := ⟨w.heap.size, k, none⟩) hsz).trans hce
        have hfr2 : w2.frozen? ⟨w.heap.size, k, none⟩ = false := (hb2.frozen (p := ⟨w.heap.size, k, none⟩) hsz).trans hfr
        rw [unhide HM] at hr2
        have hs2 := (unhide hcl).step (c' := c') hlt hr2 hb2 ha2
        rw [← unhide HM] at hs2
        have HS2 := hide hs2
        clear hcl hce hfr hs2 hr2 hb2 ha2 HC
        go_wp2
        go_roundw
        case rel => exact ⟨k + 1, _, _, _, by omega, by go_num, HS2⟩
        case measure => simp [intOf]; omega
      · obtain rfl : k = len := by omega
        clear H HKL
        go_wp2
        go_ret
        have hc := unhide hcl
        refine ⟨_, _, ka', kc', rfl, ⟨.inr ⟨w.heap.size, 0, rfl, fun j hj => ?_⟩, fun j hj => (hc.rows j hj).1⟩, hc.below⟩
        rw [Nat.zero_add, (hc.cells j hj).1, hc.done j hj]
end Go.Proofs.Qxb6605991a
