/-
  Lists of errors in rows of the call's own.
-/
import Derived.Test.Qxb6613638aFmtC
import Derived.OwnWalk
import Derived.Maps.AppendAt
namespace Go.Proofs.Qxb6613638aFmt
open Go.RowKit Go.Extern

/-- The value is an error that holds one finding of the section; its blocks are not r. -/
def ErrAt (w : World) (v : Value) (sec : ByteArray) (r : Option Nat) : Prop :=
  ∃ b g msg, v = .iface 85 (.pointer (some ⟨b, 0, none⟩)) ∧ w.cell? ⟨b, 0, none⟩ = some (.slice (some ⟨g, 0, none⟩) 1 1) ∧
    w.cell? ⟨g, 0, none⟩ = some (.string sec) ∧ w.cell? ⟨g, 1, none⟩ = some (.bool false) ∧ w.cell? ⟨g, 2, none⟩ = some (.string msg) ∧ some b ≠ r ∧ some g ≠ r

theorem ErrAt.kept {w w' : World} {v : Value} {sec : ByteArray} {r r' : Option Nat} (h : ErrAt w v sec r) (hg : w.grownBy w' r) (hr : r' = r ∨ r' = some w.heap.size) : ErrAt w' v sec r' := by
  obtain ⟨b, g, msg, h1, h2, h3, h4, h5, h6, h7⟩ := h
  have lb : b < w.heap.size := World.block_lt_of_cell? w _ h2
  have lg : g < w.heap.size := World.block_lt_of_cell? w _ h3
  refine ⟨b, g, msg, h1, hg.cell h2 h6, hg.cell h3 h7, hg.cell h4 h7, hg.cell h5 h7, ?_, ?_⟩
  · rcases hr with rfl | rfl
    · exact h6
    · intro e; cases e; omega
  · rcases hr with rfl | rfl
    · exact h7
    · intro e; cases e; omega

theorem below_grownBy {w w' : World} (h : Below w.heap.size w w') (row : Option Nat) : w.grownBy w' row := ⟨h.os, h.tape, h.output, h.size, fun k hk _ => h.block k hk⟩

/-- A row of the call's own holds the errors. -/
def ErrsL (w : World) (B : Nat) (v : Value) (xs : List Value) (secs : List ByteArray) : Prop :=
  w.ownsRow B 79 1 v xs.length xs ∧ xs.length = secs.length ∧ ∀ (i : Nat) (x : Value) (s : ByteArray), xs[i]? = some x → secs[i]? = some s → ErrAt w x s v.ownBlock

theorem ErrsL.below {w w' : World} {B : Nat} {v : Value} {xs : List Value} {secs : List ByteArray} (h : ErrsL w B v xs secs) (hb : Below w.heap.size w w') : ErrsL w' B v xs secs :=
  ⟨h.1.kept (below_grownBy hb none) (by
    cases hv : v.ownBlock with
    | none => exact .inl rfl
    | some b => exact .inr (by simp)), h.2.1, fun i x s h1 h2 => (h.2.2 i x s h1 h2).kept (below_grownBy hb _) (.inl rfl)⟩

theorem ErrsL.snoc {w w' : World} {B : Nat} {v v' x : Value} {xs : List Value} {secs : List ByteArray} {sec : ByteArray} (h : ErrsL w B v xs secs) (hx : ErrAt w x sec v.ownBlock)
    (ho : w'.ownsRow B 79 1 v' (xs.length + 1) (xs ++ [x])) (hg : w.grownBy w' v.ownBlock) (hv : v'.ownBlock = v.ownBlock ∨ v'.ownBlock = some w.heap.size) : ErrsL w' B v' (xs ++ [x]) (secs ++ [sec]) := by
  refine ⟨by simpa using ho, by simp [h.2.1], fun i y s h1 h2 => ?_⟩
  by_cases hi : i < xs.length
  · rw [List.getElem?_append_left hi] at h1
    rw [List.getElem?_append_left (by rw [← h.2.1]; exact hi)] at h2
    exact (h.2.2 i y s h1 h2).kept hg hv
  · have hlt := (List.getElem?_eq_some_iff.1 h1).1
    simp at hlt
    obtain rfl : i = xs.length := by omega
    rw [List.getElem?_concat_length] at h1
    rw [h.2.1, List.getElem?_concat_length] at h2
    cases h1
    cases h2
    exact hx.kept hg hv
end Go.Proofs.Qxb6613638aFmt
