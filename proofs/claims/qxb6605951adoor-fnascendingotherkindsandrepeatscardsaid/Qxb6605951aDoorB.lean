/-
  The walk of zzCloneStrings.
-/
import Derived.Test.Qxb6605951aDoorA
import Derived.Lib.SliceRun
namespace Go.Proofs.Qxb6605951aDoor
open Go.RowKit

theorem Tryd.info9 : (Tryd.prog.info? 9).map (fun i => (i.zero, i.size, i.bytes)) = some (some (.string ByteArray.empty), 1, 16) := by kernel_rfl
theorem Tryd.size9 : (Tryd.prog.info? 9).map (·.size) = some 1 := by kernel_rfl

/-- The whole of a row of one-cell values, copied. -/
theorem copy_strs (w : World) (g len cap cap' : Nat) (a : Addr) (cur : Array Value) (f : Nat → ByteArray) (hg : w.heap[g]? = some (.cells cur 9 (0, 0))) (hs : cur.size = len)
    (h : ∀ k, k < len → w.cell? (a.add k) = some (.string (f k))) (ty : TypeId) :
    ∃ w', (Builtin.copy_ #[22, 22] ty #[.slice (some ⟨g, 0, none⟩) len cap', .slice (some a) len cap]).run Tryd.prog w = .ok (.int .i64 len) w' ∧
      (∀ k, k < len → w'.cell? ⟨g, k, none⟩ = some (.string (f k))) ∧ w.grownBy w' (some g) := by
  have hr := run_copy_row (P := Tryd.prog) w 22 22 ty 9 g 0 len cap' a len cap cur 9 ((List.range len).map fun k => .string (f k)) Tryd.underlying22 Tryd.size9 hg (by simp) ?_ (by simp; omega) ?_
  · simp only [List.length_map, List.length_range] at hr
    refine ⟨_, hr, ?_, ⟨rfl, rfl, rfl, by simp, fun k _ hk => setRow_other w g k _ (fun e => hk (by rw [e]))⟩⟩
    intro k hk
    rw [cell_of_row _ g k _ 9 (0, 0) (setRow_heap w g cur _ 9 _ hg)]
    simp only [List.take_zero, List.nil_append, Nat.zero_add, List.getElem?_toArray]
    rw [List.getElem?_append_left (by simpa using hk)]
    simp [hk]
  · intro j v hv
    have hj : j < len := by have := (List.getElem?_eq_some_iff.1 hv).1; simpa using this
    rw [h j hj]
    simp [hj] at hv
    rw [hv]
  · intro v hv
    obtain ⟨k, _, rfl⟩ := List.mem_map.1 hv
    rfl

/-- What 'ownsRow' says of a value that lies at a row's head. -/
theorem row_of_owns {w : World} {base : Nat} {e : TypeId} {size n : Nat} {xs : List Value} {g n' cap : Nat} (h : w.ownsRow base e size (.slice (some ⟨g, 0, none⟩) n' cap) n xs) :
    n' = n ∧ base ≤ g ∧ ∃ cur : Array Value, w.heap[g]? = some (.cells cur e (0, 0)) ∧ n ≤ cap ∧ cur.size = cap * size ∧ cur.toList.take (n * size) = xs := by
  rcases h.2 with ⟨h1, _⟩ | ⟨g', cap', cur, h1, h2, h3, h4, _, h6, h7⟩
  · cases h1
  · cases h1
    exact ⟨rfl, h2, cur, h3, h4, h6, h7⟩

/-- It handed back a slice of the strings f 0 .. f (len - 1) in memory of its own; what lay there lies there. -/
def Cloned (w : World) (len : Nat) (f : Nat → ByteArray) (e : Ending) (w' : World) : Prop :=
  ∃ a' cap', e = .returned (.slice a' len cap') ∧ StrsAt w' a' len f ∧ Below w.heap.size w w'

set_option maxHeartbeats 400000 in
theorem f6_some (b off len cap : Nat) (f : Nat → ByteArray) (w : World) (h : ∀ k, k < len → w.cell? ⟨b, off + k, none⟩ = some (.string (f k))) (hl : len ≤ 65536) :
    Calls Tryd.prog 6 #[.slice (some ⟨b, off, none⟩) len cap] w (Cloned w len f) := by
  have hq := fun w => Lib.run_eql_slice_nil (P := Tryd.prog) w 22 9 (some ⟨b, off, none⟩) len cap 0 0 Tryd.underlying22
  obtain ⟨i0, hi, hz0, hz1, hz2⟩ := info_parts Tryd.info9
  go_enter Tryd.func6, Tryd.ntmps6
  go_wp2_with (at_make; refine wpList_make_full _ rfl _ _ 22 rfl w.heap.size 9 i0 _ 1 Tryd.underlying22 hi hz0 hz1 _ _ _ _ len rfl rfl rfl rfl (by rw [hz2]; omega) (by unfold maxLen; omega) (Nat.le_refl _) ?_)
  intro w1 hown hgrow
  obtain ⟨_, _, cur, hg, _, hcs, _⟩ := row_of_owns hown
  have hb1 : Below w.heap.size w w1 := (Below.refl _ w).grown hgrow (Nat.le_refl _) (fun k e => by cases e)
  have hcp := fun ty => copy_strs w1 w.heap.size len cap len ⟨b, off, none⟩ cur f hg (by simpa using hcs) (fun k hk => (hgrow.cell (by rw [Addr.add_lit]; exact h k hk) (by simp)).trans rfl) ty
  obtain ⟨w2, hcp2, hcell, hg2⟩ := hcp 3
  have hb2 : Below w.heap.size w w2 := hb1.grown hg2 hb1.size (fun k e => by cases e; exact Nat.le_refl _)
  clear hcp hg hcs hown hgrow hb1 hg2 h hi hz0 hz1 hz2
  have HC := hcell
  have H2 : Hid (∀ k, k < len → w2.cell? ⟨w.heap.size, k, none⟩ = some (.string (f k))) := hcell
  clear hcell HC
  go_wp2
  go_ret
  exact ⟨_, _, rfl, .inr ⟨w.heap.size, 0, rfl, fun k hk => by simpa using H2.out k hk⟩, hb2⟩

theorem f6_nil (w : World) (f : Nat → ByteArray) :
    Calls Tryd.prog 6 #[.slice none 0 0] w (Cloned w 0 f) := by
  have hq := fun w => Lib.run_eql_slice_nil (P := Tryd.prog) w 22 9 none 0 0 0 0 Tryd.underlying22
  go_enter Tryd.func6, Tryd.ntmps6
  go_wp2
  go_ret
  exact ⟨_, _, rfl, .inl rfl, Below.refl _ _⟩
end Go.Proofs.Qxb6605951aDoor
