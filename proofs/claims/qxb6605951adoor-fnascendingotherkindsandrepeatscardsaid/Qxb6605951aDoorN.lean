/-
  The data of a dictionary that zzContainer has made of a list of keys: plain facts on lists and cells.
-/
import Derived.Test.Qxb6605951aDoorG
namespace Go.Proofs.Qxb6605951aDoor
open Go.RowKit

/-- Where item j begins among the container's bytes. -/
def pos (ls : List (List Int)) (j : Nat) : Nat := 1 + (ls.take j).flatten.length

theorem pos_succ (ls : List (List Int)) (j : Nat) (h : j < ls.length) : pos ls (j + 1) = pos ls j + (ls[j]?.getD []).length := by
  unfold pos
  rw [flat_step ls j h, List.length_append, Nat.add_assoc]

structure DictData (w : World) (g rl rc N k : Nat) (ls : List (List Int)) (f : Nat → ByteArray) : Prop where
  len : ls.length = 2 * k
  raw : ∀ j t x, j < 2 * k → (ls[j]?.getD [])[t]? = some x → w.cell? ⟨g, pos ls j + t, none⟩ = some (.int .u8 x)
  nest : ∀ j, j < 2 * k → w.cell? ⟨N, j * 2, none⟩ = some (.int .i32 ((ls[j]?.getD []).length : Int)) ∧ w.cell? ⟨N, j * 2 + 1, none⟩ = some (.int .i32 0)
  fits : ∀ j, j < 2 * k → pos ls j + (ls[j]?.getD []).length ≤ rl
  le : rl ≤ rc
  small : rl ≤ 10000000
  key : ∀ i, i < k → EncOf (f i) (ls[2 * i]?.getD [])
  val : ∀ i, i < k → ls[2 * i + 1]?.getD [] = [48, 58]

theorem keyItems_len : ∀ (k : Nat) (ls : List (List Int)) (f : Nat → ByteArray), KeyItems f k ls → ls.length = 2 * k
  | 0, ls, f, h => by rw [h]; rfl
  | k + 1, ls, f, h => by
    obtain ⟨ls', l, rfl, h', _⟩ := h
    have := keyItems_len k ls' f h'
    simp; omega

theorem keyItems_at : ∀ (k : Nat) (ls : List (List Int)) (f : Nat → ByteArray), KeyItems f k ls → ∀ i, i < k → EncOf (f i) (ls[2 * i]?.getD []) ∧ ls[2 * i + 1]?.getD [] = [48, 58]
  | 0, ls, f, h, i, hi => by omega
  | k + 1, ls, f, h, i, hi => by
    obtain ⟨ls', l, rfl, h', hl⟩ := h
    have hlen := keyItems_len k ls' f h'
    by_cases hik : i < k
    · have := keyItems_at k ls' f h' i hik
      rw [List.getElem?_append_left (by omega), List.getElem?_append_left (by omega)]
      exact this
    · obtain rfl : i = k := by omega
      rw [List.getElem?_append_right (by omega), List.getElem?_append_right (by omega), hlen]
      simp only [Nat.sub_self, show 2 * i + 1 - 2 * i = 1 by omega]
      exact ⟨hl, rfl⟩

/-- Every item is not empty; no item is longer than its string and 21. -/
theorem keyItems_pos (k : Nat) (ls : List (List Int)) (f : Nat → ByteArray) (h : KeyItems f k ls) : ∀ j, j < 2 * k → 0 < (ls[j]?.getD []).length := by
  intro j hj
  have h1 := keyItems_at k ls f h (j / 2) (by omega)
  by_cases hp : j % 2 = 0
  · rw [show j = 2 * (j / 2) by omega]; exact h1.1.pos
  · rw [show j = 2 * (j / 2) + 1 by omega, h1.2]; simp

theorem encOf_le {s : ByteArray} {l : List Int} (h : EncOf s l) : l.length ≤ s.size + 21 := by
  obtain ⟨ds, rfl, _, h2, _⟩ := h
  simp [sb_length]; omega

theorem keyItems_total : ∀ (k : Nat) (ls : List (List Int)) (f : Nat → ByteArray), KeyItems f k ls → ls.flatten.length ≤ total f k + 23 * k
  | 0, ls, f, h => by rw [h]; simp
  | k + 1, ls, f, h => by
    obtain ⟨ls', l, rfl, h', hl⟩ := h
    have ih := keyItems_total k ls' f h'
    have := encOf_le hl
    have e : (ls' ++ [l, [48, 58]]).flatten = ls'.flatten ++ (l ++ [48, 58]) := by simp
    rw [e]
    simp only [List.length_append, total, List.length_cons, List.length_nil]
    omega

/-- The bytes of item j stand in the container's bytes from 'pos' on. -/
theorem raw_at (o : Int) (tail : List Int) (ls : List (List Int)) (j t : Nat) (x : Int) (h : (ls[j]?.getD [])[t]? = some x) : (o :: (ls.flatten ++ tail))[pos ls j + t]? = some x := by
  have hj : j < ls.length := by
    rcases Nat.lt_or_ge j ls.length with h1 | h1
    · exact h1
    · rw [List.getElem?_eq_none h1] at h; simp at h
  have e : ls.flatten = (ls.take j).flatten ++ ((ls[j]?.getD []) ++ (ls.drop (j + 1)).flatten) := by
    have h1 : ls = ls.take j ++ (ls[j] :: ls.drop (j + 1)) := by
      rw [← List.drop_eq_getElem_cons hj, List.take_append_drop]
    have h2 : ls[j]?.getD [] = ls[j] := by simp [hj]
    rw [h2]
    calc ls.flatten = (ls.take j ++ (ls[j] :: ls.drop (j + 1))).flatten := by rw [← h1]
      _ = _ := by rw [List.flatten_append, List.flatten_cons]
  have ht : t < (ls[j]?.getD []).length := (List.getElem?_eq_some_iff.1 h).1
  rw [e, show pos ls j + t = (ls.take j).flatten.length + t + 1 by unfold pos; omega, List.getElem?_cons_succ, List.append_assoc, List.append_assoc, List.getElem?_append_right (by omega),
    show (ls.take j).flatten.length + t - (ls.take j).flatten.length = t by omega, List.getElem?_append_left ht]
  exact h

theorem pos_le (ls : List (List Int)) (j : Nat) (h : j < ls.length) : pos ls j + (ls[j]?.getD []).length ≤ 1 + ls.flatten.length := by
  rw [← pos_succ ls j h]
  have := flat_le ls (j + 1)
  unfold pos; omega

theorem dictData (w : World) (B g rl rc N k : Nat) (ls : List (List Int)) (f : Nat → ByteArray) (hk : KeyItems f k ls) (hown : Own8 w B (.slice (some ⟨g, 0, none⟩) rl rc) (100 :: (ls.flatten ++ [101])))
    (hn : Nest N (2 * k) (fun j => ((ls[j]?.getD []).length : Int)) (2 * k) w) (hs : ls.flatten.length ≤ 9000000) : DictData w g rl rc N k ls f := by
  have hlen := keyItems_len k ls f hk
  obtain ⟨hrl, _, cur, hcur, hle, hcs, htake⟩ := row_of_owns hown
  have hrl' : rl = ls.flatten.length + 2 := by rw [hrl]; simp
  refine ⟨hlen, fun j t x hj hx => ?_, fun j hj => hn.1 j hj, fun j hj => ?_, by omega, by omega, fun i hi => (keyItems_at k ls f hk i hi).1, fun i hi => (keyItems_at k ls f hk i hi).2⟩
  · refine ownsRow_cell hown _ _ ?_
    rw [List.getElem?_map, raw_at 100 [101] ls j t x hx]
    rfl
  · have := pos_le ls j (by omega)
    omega

theorem DictData.later {w W : World} {g rl rc N k : Nat} {ls : List (List Int)} {f : Nat → ByteArray} (h : DictData w g rl rc N k ls f) (hb : Below w.heap.size w W) : DictData W g rl rc N k ls f :=
  ⟨h.len, fun j t x hj hx => (hb.cell (World.block_lt_of_cell? w _ (h.raw j t x hj hx))).trans (h.raw j t x hj hx),
    fun j hj => ⟨(hb.cell (World.block_lt_of_cell? w _ (h.nest j hj).1)).trans (h.nest j hj).1, (hb.cell (World.block_lt_of_cell? w _ (h.nest j hj).2)).trans (h.nest j hj).2⟩, h.fits, h.le, h.small, h.key, h.val⟩
end Go.Proofs.Qxb6605951aDoor
