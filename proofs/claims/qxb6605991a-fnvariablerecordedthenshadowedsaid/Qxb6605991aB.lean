/-
  The walks of the helpers that lay one value more.
-/
import Derived.Test.Qxb6605991aA
namespace Go.Proofs.Qxb6605991a
open Go.RowKit

theorem hide {p : Prop} (h : p) : Hid p := h
theorem unhide {p : Prop} (h : Hid p) : p := h

set_option maxHeartbeats 400000 in
theorem f10_any (a : Option Addr) (len cap : Nat) (F : Nat → Value) (s : ByteArray) (w : World) (h : RowAt w a len F) (h1 : ∀ k, k < len → (F k).oneCell' = true) (hl : len ≤ 1048577) :
    Calls Try.prog 10 #[.slice a len cap, .string s] w (Handed w (len + 1) (ext F len (.string s))) := by
  obtain ⟨i0, hi, hz0, hz1, hz2⟩ := info_parts Try.info9
  go_enter Try.func10, Try.ntmps10
  go_wp2_with (at_make; refine wpList_make_full _ rfl _ _ 22 rfl w.heap.size 9 i0 _ 1 Try.underlying22 hi hz0 hz1 _ _ _ _ (len + 1) rfl rfl (by omega) (by omega) (by rw [hz2]; omega) (by unfold maxLen; omega) (Nat.le_refl _) ?_)
  intro w1 hown hgrow
  obtain ⟨_, _, cur, hg, _, hcs, _⟩ := row_of_owns hown
  have hb1 : Below w.heap.size w w1 := (Below.refl _ w).grown hgrow (Nat.le_refl _) (fun k e => by cases e)
  obtain ⟨w2, cur2, hcp2, hg2, hs2, hcell, hgr2⟩ := copy_row w1 22 9 Try.underlying22 Try.size9 w.heap.size len (len + 1) cap (len + 1) a cur 9 F hg (by omega) (by omega) (h.below hb1 (Nat.le_refl _)) h1 3
  have hb2 : Below w.heap.size w w2 := hb1.grown hgr2 hb1.size (fun k e => by cases e; exact Nat.le_refl _)
  obtain ⟨old, hold⟩ : ∃ v, w2.cell? ⟨w.heap.size, len, none⟩ = some v := ⟨cur2[len]'(by omega), by rw [cell_of_row _ _ _ _ _ _ hg2]; exact Array.getElem?_eq_getElem _⟩
  have hfr : w2.frozen? ⟨w.heap.size, len, none⟩ = false := by simp only [World.frozen?, hg2]; simp
  have hrow : RowAt (w2.setCell ⟨w.heap.size, len, none⟩ (.string s)) (some ⟨w.heap.size, 0, none⟩) (len + 1) (ext F len (.string s)) := by
    refine .inr ⟨w.heap.size, 0, rfl, fun k hk => ?_⟩
    rw [Nat.zero_add]
    unfold ext
    by_cases hkl : k = len
    · subst hkl
      rw [if_pos rfl]
      exact World.cell?_setCell_same' _ _ _ (by rw [hold]; rfl)
    · rw [if_neg hkl, World.cell?_setCell_other _ _ _ _ (by simp), cell_of_row _ _ _ _ _ _ hg2]
      exact hcell k (by omega)
  have HR := hide hrow
  have hb3 : Below w.heap.size w (w2.setCell ⟨w.heap.size, len, none⟩ (.string s)) := hb2.setCell (p := ⟨w.heap.size, len, none⟩) (Nat.le_refl _) _
  have HB := hide hb3
  clear hg hcs hown hgrow hb1 hg2 h hi hz0 hz1 hz2 hgr2 hcell h1 hb2 hs2 hrow hb3
  go_wp2
  go_ret
  exact ⟨_, _, rfl, unhide HR, unhide HB, fun x hx => by cases hx; exact Nat.le_refl _⟩

set_option maxHeartbeats 400000 in
theorem f11_any (a : Option Addr) (len cap : Nat) (F : Nat → Value) (x : Int) (w : World) (h : RowAt w a len F) (h1 : ∀ k, k < len → (F k).oneCell' = true) (hl : len ≤ 1048577) :
    Calls Try.prog 11 #[.slice a len cap, .int .i64 x] w (Handed w (len + 1) (ext F len (.int .i64 x))) := by
  obtain ⟨i0, hi, hz0, hz1, hz2⟩ := info_parts Try.info3
  go_enter Try.func11, Try.ntmps11
  go_wp2_with (at_make; refine wpList_make_full _ rfl _ _ 24 rfl w.heap.size 3 i0 _ 1 Try.underlying24 hi hz0 hz1 _ _ _ _ (len + 1) rfl rfl (by omega) (by omega) (by rw [hz2]; omega) (by unfold maxLen; omega) (Nat.le_refl _) ?_)
  intro w1 hown hgrow
  obtain ⟨_, _, cur, hg, _, hcs, _⟩ := row_of_owns hown
  have hb1 : Below w.heap.size w w1 := (Below.refl _ w).grown hgrow (Nat.le_refl _) (fun k e => by cases e)
  obtain ⟨w2, cur2, hcp2, hg2, hs2, hcell, hgr2⟩ := copy_row w1 24 3 Try.underlying24 Try.size3 w.heap.size len (len + 1) cap (len + 1) a cur 3 F hg (by omega) (by omega) (h.below hb1 (Nat.le_refl _)) h1 3
  have hb2 : Below w.heap.size w w2 := hb1.grown hgr2 hb1.size (fun k e => by cases e; exact Nat.le_refl _)
  obtain ⟨old, hold⟩ : ∃ v, w2.cell? ⟨w.heap.size, len, none⟩ = some v := ⟨cur2[len]'(by omega), by rw [cell_of_row _ _ _ _ _ _ hg2]; exact Array.getElem?_eq_getElem _⟩
  have hfr : w2.frozen? ⟨w.heap.size, len, none⟩ = false := by simp only [World.frozen?, hg2]; simp
  have hrow : RowAt (w2.setCell ⟨w.heap.size, len, none⟩ (.int .i64 x)) (some ⟨w.heap.size, 0, none⟩) (len + 1) (ext F len (.int .i64 x)) := by
    refine .inr ⟨w.heap.size, 0, rfl, fun k hk => ?_⟩
    rw [Nat.zero_add]
    unfold ext
    by_cases hkl : k = len
    · subst hkl
      rw [if_pos rfl]
      exact World.cell?_setCell_same' _ _ _ (by rw [hold]; rfl)
    · rw [if_neg hkl, World.cell?_setCell_other _ _ _ _ (by simp), cell_of_row _ _ _ _ _ _ hg2]
      exact hcell k (by omega)
  have HR := hide hrow
  have hb3 : Below w.heap.size w (w2.setCell ⟨w.heap.size, len, none⟩ (.int .i64 x)) := hb2.setCell (p := ⟨w.heap.size, len, none⟩) (Nat.le_refl _) _
  have HB := hide hb3
  clear hg hcs hown hgrow hb1 hg2 h hi hz0 hz1 hz2 hgr2 hcell h1 hb2 hs2 hrow hb3
  go_wp2
  go_ret
  exact ⟨_, _, rfl, unhide HR, unhide HB, fun x hx => by cases hx; exact Nat.le_refl _⟩

set_option maxHeartbeats 400000 in
theorem f14_any (a : Option Addr) (len cap : Nat) (F : Nat → Value) (a1 : Option Addr) (len1 cap1 : Nat) (w : World) (h : RowAt w a len F) (h1 : ∀ k, k < len → (F k).oneCell' = true) (hl : len ≤ 1048577) :
    Calls Try.prog 14 #[.slice a len cap, .slice a1 len1 cap1] w (Handed w (len + 1) (ext F len (.slice a1 len1 cap1))) := by
  obtain ⟨i0, hi, hz0, hz1, hz2⟩ := info_parts Try.info22
  go_enter Try.func14, Try.ntmps14
  go_wp2_with (at_make; refine wpList_make_full _ rfl _ _ 23 rfl w.heap.size 22 i0 _ 1 Try.underlying23 hi hz0 hz1 _ _ _ _ (len + 1) rfl rfl (by omega) (by omega) (by rw [hz2]; omega) (by unfold maxLen; omega) (Nat.le_refl _) ?_)
  intro w1 hown hgrow
  obtain ⟨_, _, cur, hg, _, hcs, _⟩ := row_of_owns hown
  have hb1 : Below w.heap.size w w1 := (Below.refl _ w).grown hgrow (Nat.le_refl _) (fun k e => by cases e)
  obtain ⟨w2, cur2, hcp2, hg2, hs2, hcell, hgr2⟩ := copy_row w1 23 22 Try.underlying23 Try.size22 w.heap.size len (len + 1) cap (len + 1) a cur 22 F hg (by omega) (by omega) (h.below hb1 (Nat.le_refl _)) h1 3
  have hb2 : Below w.heap.size w w2 := hb1.grown hgr2 hb1.size (fun k e => by cases e; exact Nat.le_refl _)
  obtain ⟨old, hold⟩ : ∃ v, w2.cell? ⟨w.heap.size, len, none⟩ = some v := ⟨cur2[len]'(by omega), by rw [cell_of_row _ _ _ _ _ _ hg2]; exact Array.getElem?_eq_getElem _⟩
  have hfr : w2.frozen? ⟨w.heap.size, len, none⟩ = false := by simp only [World.frozen?, hg2]; simp
  have hrow : RowAt (w2.setCell ⟨w.heap.size, len, none⟩ (.slice a1 len1 cap1)) (some ⟨w.heap.size, 0, none⟩) (len + 1) (ext F len (.slice a1 len1 cap1)) := by
    refine .inr ⟨w.heap.size, 0, rfl, fun k hk => ?_⟩
    rw [Nat.zero_add]
    unfold ext
    by_cases hkl : k = len
    · subst hkl
      rw [if_pos rfl]
      exact World.cell?_setCell_same' _ _ _ (by rw [hold]; rfl)
    · rw [if_neg hkl, World.cell?_setCell_other _ _ _ _ (by simp), cell_of_row _ _ _ _ _ _ hg2]
      exact hcell k (by omega)
  have HR := hide hrow
  have hb3 : Below w.heap.size w (w2.setCell ⟨w.heap.size, len, none⟩ (.slice a1 len1 cap1)) := hb2.setCell (p := ⟨w.heap.size, len, none⟩) (Nat.le_refl _) _
  have HB := hide hb3
  clear hg hcs hown hgrow hb1 hg2 h hi hz0 hz1 hz2 hgr2 hcell h1 hb2 hs2 hrow hb3
  go_wp2
  go_ret
  exact ⟨_, _, rfl, unhide HR, unhide HB, fun x hx => by cases hx; exact Nat.le_refl _⟩
end Go.Proofs.Qxb6605991a
