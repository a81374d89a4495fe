/-
  Rows of cells as functions; the walks of the copying helpers.
-/
import Derived.Test.Qxb6605991aN
import Derived.Laws.CopyOwn
import Derived.Laws.IdiomCopy
import Derived.OwnWalk
import Derived.Outline
import Derived.Lib.SliceRun
namespace Go.Proofs.Qxb6605991a
open Go.RowKit

/-- It ended by handing back some bool, true only where p holds. -/
def IsBool (p : Prop) (e : Ending) : Prop := ∃ b, e = .returned (.bool b) ∧ (b = true → p)
theorem isBool_false (p : Prop) : IsBool p (.returned (.bool false)) := ⟨false, rfl, fun h => by cases h⟩
theorem isBool_true {p : Prop} (h : p) : IsBool p (.returned (.bool true)) := ⟨true, rfl, fun _ => h⟩

/-- The cells from 'a' on hold F 0, F 1, .., F (len - 1). -/
def RowAt (w : World) (a : Option Addr) (len : Nat) (F : Nat → Value) : Prop :=
  len = 0 ∨ ∃ b off, a = some ⟨b, off, none⟩ ∧ ∀ k, k < len → w.cell? ⟨b, off + k, none⟩ = some (F k)

/-- F with v at place n. -/
def ext {α : Type} (F : Nat → α) (n : Nat) (v : α) : Nat → α := fun k => if k = n then v else F k
theorem ext_map {α β : Type} (g : α → β) (f : Nat → α) (n : Nat) (s : α) : ext (fun k => g (f k)) n (g s) = fun k => g (ext f n s k) := by
  funext k
  unfold ext
  split <;> rfl

theorem RowAt.nil {w : World} {len : Nat} {F : Nat → Value} (h : RowAt w none len F) : len = 0 := by
  rcases h with h | ⟨b, off, h1, _⟩
  · exact h
  · cases h1
theorem RowAt.congr {w : World} {a : Option Addr} {len : Nat} {F G : Nat → Value} (h : RowAt w a len F) (e : ∀ k, k < len → F k = G k) : RowAt w a len G := by
  rcases h with h | ⟨b, off, h1, h2⟩
  · exact .inl h
  · exact .inr ⟨b, off, h1, fun k hk => by rw [h2 k hk, e k hk]⟩
theorem RowAt.below {w w' : World} {a : Option Addr} {len : Nat} {F : Nat → Value} (h : RowAt w a len F) {B : Nat} (hb : Below B w w') (hB : w.heap.size ≤ B) : RowAt w' a len F := by
  rcases h with h | ⟨b, off, h1, h2⟩
  · exact .inl h
  · exact .inr ⟨b, off, h1, fun k hk => (hb.cell (Nat.lt_of_lt_of_le (World.block_lt_of_cell? w _ (h2 k hk)) hB)).trans (h2 k hk)⟩
/-- A world that differs from w in new blocks and in blocks from B on only, where the row lies below B. -/
theorem RowAt.under {w w' : World} {a : Option Addr} {len : Nat} {F : Nat → Value} (h : RowAt w a len F) {B : Nat} (hb : Below B w w') (hB : ∀ x, a = some x → x.block < B) : RowAt w' a len F := by
  rcases h with h | ⟨b, off, h1, h2⟩
  · exact .inl h
  · exact .inr ⟨b, off, h1, fun k hk => (hb.cell (p := ⟨b, off + k, none⟩) (hB ⟨b, off, none⟩ h1)).trans (h2 k hk)⟩
theorem RowAt.of_cells {w : World} {g len : Nat} {cur : Array Value} {t : TypeId} {F : Nat → Value} (hg : w.heap[g]? = some (.cells cur t (0, 0))) (h : ∀ k, k < len → cur[k]? = some (F k)) : RowAt w (some ⟨g, 0, none⟩) len F :=
  .inr ⟨g, 0, rfl, fun k hk => by rw [Nat.zero_add, cell_of_row _ g k _ t (0, 0) hg]; exact h k hk⟩

/-- The whole of a row of one-cell values, copied to the head of another. -/
theorem copy_row (w : World) (T e : TypeId) (hu : Try.prog.underlying T = some (.slice e)) (hsz : (Try.prog.info? e).map (·.size) = some 1) (g n m cap cap' : Nat) (a : Option Addr) (cur : Array Value) (t : TypeId) (F : Nat → Value)
    (hg : w.heap[g]? = some (.cells cur t (0, 0))) (hnm : n ≤ m) (hm : m ≤ cur.size) (h : RowAt w a n F) (h1 : ∀ k, k < n → (F k).oneCell' = true) (ty : TypeId) :
    ∃ w' cur', (Builtin.copy_ #[T, T] ty #[.slice (some ⟨g, 0, none⟩) m cap', .slice a n cap]).run Try.prog w = .ok (.int .i64 n) w' ∧
      w'.heap[g]? = some (.cells cur' t (0, 0)) ∧ cur'.size = cur.size ∧ (∀ k, k < n → cur'[k]? = some (F k)) ∧ w.grownBy w' (some g) := by
  rcases h with rfl | ⟨b, off, rfl, hc⟩
  · refine ⟨w, cur, run_copy_none w T T ty e _ _ m cap' 0 cap hu hsz (by simp), hg, rfl, fun k hk => by omega, World.grownBy.refl w _⟩
  · have hr := run_copy_row (P := Try.prog) w T T ty e g 0 m cap' ⟨b, off, none⟩ n cap cur t ((List.range n).map F) hu hsz hg (by simp [Nat.min_eq_left hnm]) ?_ (by simp; omega) ?_
    · simp only [List.length_map, List.length_range] at hr
      refine ⟨_, _, hr, setRow_heap w g cur _ t _ hg, by simp; omega, fun k hk => ?_, ⟨rfl, rfl, rfl, by simp, fun k _ hk => setRow_other w g k _ (fun e => hk (by rw [e]))⟩⟩
      simp only [List.take_zero, List.nil_append, Nat.zero_add, List.getElem?_toArray]
      rw [List.getElem?_append_left (by simpa using hk)]
      simp [hk]
    · intro j v hv
      have hj : j < n := by have := (List.getElem?_eq_some_iff.1 hv).1; simpa using this
      rw [Addr.add_lit, hc j hj]
      simp [hj] at hv
      rw [hv]
    · intro v hv
      obtain ⟨k, hk, rfl⟩ := List.mem_map.1 hv
      exact h1 k (by simpa using hk)

/-- What 'ownsRow' says of a value that lies at a row's head. -/
theorem row_of_owns {w : World} {base : Nat} {e : TypeId} {size n : Nat} {xs : List Value} {g n' cap : Nat} (h : w.ownsRow base e size (.slice (some ⟨g, 0, none⟩) n' cap) n xs) :
    n' = n ∧ base ≤ g ∧ ∃ cur : Array Value, w.heap[g]? = some (.cells cur e (0, 0)) ∧ n ≤ cap ∧ cur.size = cap * size ∧ cur.toList.take (n * size) = xs := by
  rcases h.2 with ⟨h1, _⟩ | ⟨g', cap', cur, h1, h2, h3, h4, _, h6, h7⟩
  · cases h1
  · cases h1
    exact ⟨rfl, h2, cur, h3, h4, h6, h7⟩

/-- It handed back a slice of F 0 .. F (len - 1) in memory of its own; what lay there lies there. -/
def Handed (w : World) (len : Nat) (F : Nat → Value) (e : Ending) (w' : World) : Prop :=
  ∃ a' cap', e = .returned (.slice a' len cap') ∧ RowAt w' a' len F ∧ Below w.heap.size w w' ∧ ∀ x, a' = some x → w.heap.size ≤ x.block

theorem Try.size9 : (Try.prog.info? 9).map (·.size) = some 1 := by kernel_rfl
theorem Try.size3 : (Try.prog.info? 3).map (·.size) = some 1 := by kernel_rfl
theorem Try.size22 : (Try.prog.info? 22).map (·.size) = some 1 := by kernel_rfl

set_option maxHeartbeats 400000 in
theorem f6_any (a : Option Addr) (len cap : Nat) (F : Nat → Value) (w : World) (h : RowAt w a len F) (h1 : ∀ k, k < len → (F k).oneCell' = true) (hl : len ≤ 1048577) :
    Calls Try.prog 6 #[.slice a len cap] w (Handed w len F) := by
  have hq := fun w => Lib.run_eql_slice_nil (P := Try.prog) w 22 9 a len cap 0 0 Try.underlying22
  cases a with
  | none =>
    obtain rfl := h.nil
    clear h h1
    go_enter Try.func6, Try.ntmps6
    go_wp2
    go_ret
    exact ⟨_, _, rfl, .inl rfl, Below.refl _ _, fun x hx => by cases hx⟩
  | some a =>
    obtain ⟨i0, hi, hz0, hz1, hz2⟩ := info_parts Try.info9
    go_enter Try.func6, Try.ntmps6
    go_wp2_with (at_make; refine wpList_make_full _ rfl _ _ 22 rfl w.heap.size 9 i0 _ 1 Try.underlying22 hi hz0 hz1 _ _ _ _ len rfl rfl rfl rfl (by rw [hz2]; omega) (by unfold maxLen; omega) (Nat.le_refl _) ?_)
    intro w1 hown hgrow
    obtain ⟨_, _, cur, hg, _, hcs, _⟩ := row_of_owns hown
    have hb1 : Below w.heap.size w w1 := (Below.refl _ w).grown hgrow (Nat.le_refl _) (fun k e => by cases e)
    obtain ⟨w2, cur2, hcp2, hg2, _, hcell, hgr2⟩ := copy_row w1 22 9 Try.underlying22 Try.size9 w.heap.size len len cap len (some a) cur 9 F hg (Nat.le_refl _) (by omega) (h.below hb1 (Nat.le_refl _)) h1 3
    have hb2 : Below w.heap.size w w2 := hb1.grown hgr2 hb1.size (fun k e => by cases e; exact Nat.le_refl _)
    have HR : Hid (RowAt w2 (some ⟨w.heap.size, 0, none⟩) len F) := RowAt.of_cells hg2 hcell
    clear hg hcs hown hgrow hb1 hg2 h hi hz0 hz1 hz2 hgr2 hcell h1
    go_wp2
    go_ret
    exact ⟨_, _, rfl, HR.out, hb2, fun x hx => by cases hx; exact Nat.le_refl _⟩

set_option maxHeartbeats 400000 in
theorem f8_any (a : Option Addr) (len cap : Nat) (F : Nat → Value) (w : World) (h : RowAt w a len F) (h1 : ∀ k, k < len → (F k).oneCell' = true) (hl : len ≤ 1048577) :
    Calls Try.prog 8 #[.slice a len cap] w (Handed w len F) := by
  have hq := fun w => Lib.run_eql_slice_nil (P := Try.prog) w 24 3 a len cap 0 0 Try.underlying24
  cases a with
  | none =>
    obtain rfl := h.nil
    clear h h1
    go_enter Try.func8, Try.ntmps8
    go_wp2
    go_ret
    exact ⟨_, _, rfl, .inl rfl, Below.refl _ _, fun x hx => by cases hx⟩
  | some a =>
    obtain ⟨i0, hi, hz0, hz1, hz2⟩ := info_parts Try.info3
    go_enter Try.func8, Try.ntmps8
    go_wp2_with (at_make; refine wpList_make_full _ rfl _ _ 24 rfl w.heap.size 3 i0 _ 1 Try.underlying24 hi hz0 hz1 _ _ _ _ len rfl rfl rfl rfl (by rw [hz2]; omega) (by unfold maxLen; omega) (Nat.le_refl _) ?_)
    intro w1 hown hgrow
    obtain ⟨_, _, cur, hg, _, hcs, _⟩ := row_of_owns hown
    have hb1 : Below w.heap.size w w1 := (Below.refl _ w).grown hgrow (Nat.le_refl _) (fun k e => by cases e)
    obtain ⟨w2, cur2, hcp2, hg2, _, hcell, hgr2⟩ := copy_row w1 24 3 Try.underlying24 Try.size3 w.heap.size len len cap len (some a) cur 3 F hg (Nat.le_refl _) (by omega) (h.below hb1 (Nat.le_refl _)) h1 3
    have hb2 : Below w.heap.size w w2 := hb1.grown hgr2 hb1.size (fun k e => by cases e; exact Nat.le_refl _)
    have HR : Hid (RowAt w2 (some ⟨w.heap.size, 0, none⟩) len F) := RowAt.of_cells hg2 hcell
    clear hg hcs hown hgrow hb1 hg2 h hi hz0 hz1 hz2 hgr2 hcell h1
    go_wp2
    go_ret
    exact ⟨_, _, rfl, HR.out, hb2, fun x hx => by cases hx; exact Nat.le_refl _⟩
end Go.Proofs.Qxb6605991a
