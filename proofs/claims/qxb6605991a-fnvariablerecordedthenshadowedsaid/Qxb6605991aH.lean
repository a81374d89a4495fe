/-
  The walk of ZZnewOrigin, its first half: what the file map says.
-/
import Derived.Test.Qxb6605991aG
import Derived.Test.Qxb6605991aF
namespace Go.Proofs.Qxb6605991a
open Go.RowKit

/-- Whether the file hides a key: behind i tables. -/
def hidT (f : Nat → ByteArray) (kl : Nat → Nat) (ks : Nat → Nat → ByteArray) : Nat → ByteArray → ByteArray → Bool
  | 0, _, _ => false
  | i + 1, s, k => if s = f i then decide (∃ j, j < kl i ∧ k = ks i j) else hidT f kl ks i s k
/-- .. and behind j arrays. -/
def hidA (h : ByteArray → ByteArray → Bool) (f : Nat → ByteArray) : Nat → ByteArray → ByteArray → Bool
  | 0, s, k => h s k
  | j + 1, s, k => if s = f j then true else hidA h f j s k
/-- What the variables' map answers behind v of them. -/
def varsOf (f : Nat → ByteArray) (p : Nat → Int) (x : Nat → ByteArray) : Nat → ByteArray × Int → Option ByteArray
  | 0, _ => none
  | v + 1, q => if q = (f v, p v) then some (x v) else varsOf f p x v q

/-- The block fb is the file's map; it hides as h says. -/
def FileAt (w : World) (fb : Nat) (h : ByteArray → ByteArray → Bool) : Prop :=
  ∃ L : ByteArray → Option Value, MapAt Value.string w fb L ∧ ∀ s, (L s = none ∧ ∀ k, h s k = false) ∨
    (∃ (mb : Nat) (M : ByteArray → Option Value), fb < mb ∧ MapAt Value.string w mb M ∧ L s = some (.iface 35 (.map (some mb))) ∧ ∀ k, h s k = (M k).isSome) ∨
    (∃ a l c, L s = some (.iface 43 (.slice a l c)) ∧ ∀ k, h s k = true)

theorem MapAt.congr {K : Type} [DecidableEq K] {ky : K → Value} {w : World} {b : Nat} {L L' : K → Option Value} (h : MapAt ky w b L) (e : ∀ k, L k = L' k) : MapAt ky w b L' := by
  obtain ⟨es, c, l, h1, h2, h3⟩ := h
  exact ⟨es, c, l, h1, h2, fun k => (h3 k).trans (e k)⟩

theorem FileAt.lt {w : World} {fb : Nat} {h : ByteArray → ByteArray → Bool} (H : FileAt w fb h) : fb < w.heap.size := by
  obtain ⟨L, hL, _⟩ := H
  exact hL.lt
theorem FileAt.says {w : World} {fb : Nat} {h : ByteArray → ByteArray → Bool} (H : FileAt w fb h) : ∃ L, MapAt Value.string w fb L ∧ ∀ s k, Says w k (L s) (h s k) := by
  obtain ⟨L, hL, hs⟩ := H
  refine ⟨L, hL, fun s k => ?_⟩
  rcases hs s with ⟨h1, h2⟩ | ⟨mb, M, _, h1, h2, h3⟩ | ⟨a, l, c, h1, h2⟩
  · rw [h1, h2]; exact .silent
  · rw [h2, h3]; exact .table mb M h1
  · rw [h1, h2]; exact .array a l c
theorem FileAt.new (w : World) : FileAt (w.alloc (.map #[] 0)) w.heap.size (fun _ _ => false) := ⟨_, MapAt.new _ w, fun _ => .inl ⟨rfl, fun _ => rfl⟩⟩
theorem FileAt.below {w w' : World} {fb : Nat} {h : ByteArray → ByteArray → Bool} (H : FileAt w fb h) {B : Nat} (hb : Below B w w') (hB : w.heap.size ≤ B) : FileAt w' fb h := by
  obtain ⟨L, hL, hs⟩ := H
  refine ⟨L, hL.below hb (Nat.lt_of_lt_of_le hL.lt hB), fun s => ?_⟩
  rcases hs s with h1 | ⟨mb, M, h0, h1, h2⟩ | h1
  · exact .inl h1
  · exact .inr (.inl ⟨mb, M, h0, h1.below hb (Nat.lt_of_lt_of_le h1.lt hB), h2⟩)
  · exact .inr (.inr h1)
/-- A table's map is laid at a name. -/
theorem FileAt.table {w : World} {fb : Nat} {h : ByteArray → ByteArray → Bool} (H : FileAt w fb h) (t : ByteArray) {mb : Nat} {M : ByteArray → Option Value} (hM : MapAt Value.string w mb M) (hlt : fb < mb) :
    ∃ w', (Instr.mapUpdate 35 (.map (some fb)) (.string t) (.iface 35 (.map (some mb)))).run Try.prog w = .ok () w' ∧ FileAt w' fb (fun s k => if s = t then (M k).isSome else h s k) ∧ w.grownBy w' (some fb) := by
  obtain ⟨L, hL, hs⟩ := H
  obtain ⟨w', hr, hm, hg⟩ := hL.update (keyOk_string Try.underlying9) Try.underlying35 t (.iface 35 (.map (some mb)))
  have keep : ∀ {b : Nat} {N : ByteArray → Option Value}, fb < b → MapAt Value.string w b N → MapAt Value.string w' b N := fun hb hN => hN.of_block (hg.block _ hN.lt (by simp; omega))
  refine ⟨w', hr, ⟨_, hm, fun s => ?_⟩, hg⟩
  by_cases hst : s = t
  · simp only [hst, if_true]
    exact .inr (.inl ⟨mb, M, hlt, keep hlt hM, rfl, fun _ => rfl⟩)
  · simp only [hst, if_false]
    rcases hs s with h1 | ⟨mb', M', h0, h1, h2⟩ | h1
    · exact .inl h1
    · exact .inr (.inl ⟨mb', M', h0, keep h0 h1, h2⟩)
    · exact .inr (.inr h1)
/-- An array is laid at a name. -/
theorem FileAt.array {w : World} {fb : Nat} {h : ByteArray → ByteArray → Bool} (H : FileAt w fb h) (t : ByteArray) (a : Option Addr) (l c : Nat) :
    ∃ w', (Instr.mapUpdate 35 (.map (some fb)) (.string t) (.iface 43 (.slice a l c))).run Try.prog w = .ok () w' ∧ FileAt w' fb (fun s k => if s = t then true else h s k) ∧ w.grownBy w' (some fb) := by
  obtain ⟨L, hL, hs⟩ := H
  obtain ⟨w', hr, hm, hg⟩ := hL.update (keyOk_string Try.underlying9) Try.underlying35 t (.iface 43 (.slice a l c))
  have keep : ∀ {b : Nat} {N : ByteArray → Option Value}, fb < b → MapAt Value.string w b N → MapAt Value.string w' b N := fun hb hN => hN.of_block (hg.block _ hN.lt (by simp; omega))
  refine ⟨w', hr, ⟨_, hm, fun s => ?_⟩, hg⟩
  by_cases hst : s = t
  · simp only [hst, if_true]
    exact .inr (.inr ⟨a, l, c, rfl, fun _ => trivial⟩)
  · simp only [hst, if_false]
    rcases hs s with h1 | ⟨mb', M', h0, h1, h2⟩ | h1
    · exact .inl h1
    · exact .inr (.inl ⟨mb', M', h0, keep h0 h1, h2⟩)
    · exact .inr (.inr h1)
theorem FileAt.congr {w : World} {fb : Nat} {h h' : ByteArray → ByteArray → Bool} (H : FileAt w fb h) (e : ∀ s k, h s k = h' s k) : FileAt w fb h' := by
  rw [show h' = h from funext fun s => funext fun k => (e s k).symm]
  exact H

/-- The keys that a table's map holds behind j of them. -/
def keysOf (f : Nat → ByteArray) (n : Nat) (k : ByteArray) : Option Value := if ∃ j, j < n ∧ k = f j then some (.iface 9 (.string { data := #[] })) else none
theorem keysOf_step (f : Nat → ByteArray) (n : Nat) (k : ByteArray) : (if k = f n then some (.iface 9 (.string { data := #[] })) else keysOf f n k) = keysOf f (n + 1) k := by
  unfold keysOf
  by_cases h : k = f n
  · rw [if_pos h, if_pos ⟨n, by omega, h⟩]
  · rw [if_neg h]
    by_cases h2 : ∃ j, j < n ∧ k = f j
    · rw [if_pos h2]
      obtain ⟨j, h3, h4⟩ := h2
      rw [if_pos ⟨j, by omega, h4⟩]
    · rw [if_neg h2, if_neg]
      rintro ⟨j, h3, h4⟩
      by_cases hj : j = n
      · subst hj; exact h h4
      · exact h2 ⟨j, by omega, h4⟩
theorem keysOf_isSome (f : Nat → ByteArray) (n : Nat) (k : ByteArray) : (keysOf f n k).isSome = decide (∃ j, j < n ∧ k = f j) := by
  unfold keysOf
  by_cases h : ∃ j, j < n ∧ k = f j
  · simp [h]
  · simp [h]
end Go.Proofs.Qxb6605991a
