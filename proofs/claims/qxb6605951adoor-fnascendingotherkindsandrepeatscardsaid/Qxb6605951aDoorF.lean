/-
  The walk of ZZnewValue.
-/
import Derived.Test.Qxb6605951aDoorE
import Derived.RegionTactic
namespace Go.Proofs.Qxb6605951aDoor
open Go.RowKit

theorem Tryd.info45 : (Tryd.prog.info? 45).map (fun i => (i.zero, i.size, i.bytes)) = some (some (.agg #[.int .i32 0, .int .i32 0]), 2, 8) := by kernel_rfl

/-- The extents' block behind k rounds. -/
def Nest (N n : Nat) (sz : Nat → Int) (k : Nat) (wr : World) : Prop :=
  (∀ j, j < k → wr.cell? ⟨N, j * 2, none⟩ = some (.int .i32 (sz j)) ∧ wr.cell? ⟨N, j * 2 + 1, none⟩ = some (.int .i32 0)) ∧ (∀ j, j < 2 * n → (∃ v, wr.cell? ⟨N, j, none⟩ = some v) ∧ wr.frozen? ⟨N, j, none⟩ = false)

theorem nest_start {w : World} {N n : Nat} {cur : Array Value} {t : TypeId} {sz : Nat → Int} (h : w.heap[N]? = some (.cells cur t (0, 0))) (hs : cur.size = 2 * n) : Nest N n sz 0 w := by
  refine ⟨fun j hj => by omega, fun j hj => ⟨⟨cur[j]'(by omega), ?_⟩, ?_⟩⟩
  · rw [cell_of_row _ _ _ _ _ _ h]; exact Array.getElem?_eq_getElem _
  · simp only [World.frozen?, h]; simp

theorem Nest.block {N n k : Nat} {sz : Nat → Int} {w w' : World} (h : Nest N n sz k w) (hb : w'.heap[N]? = w.heap[N]?) : Nest N n sz k w' := by
  refine ⟨fun j hj => ?_, fun j hj => ?_⟩
  · rw [World.cell?_of_block (w := w) (a := ⟨N, j * 2, none⟩) hb, World.cell?_of_block (w := w) (a := ⟨N, j * 2 + 1, none⟩) hb]; exact h.1 j hj
  · rw [World.cell?_of_block (w := w) (a := ⟨N, j, none⟩) hb, World.frozen?_of_block (w := w) (a := ⟨N, j, none⟩) hb]; exact h.2 j hj

theorem Nest.step {N n k : Nat} {sz : Nat → Int} {w : World} (h : Nest N n sz k w) (hk : k < n) : Nest N n sz (k + 1) ((w.setCell ⟨N, k * 2, none⟩ (.int .i32 (sz k))).setCell ⟨N, k * 2 + 1, none⟩ (.int .i32 0)) := by
  have e0 : ∃ v, w.cell? ⟨N, k * 2, none⟩ = some v := (h.2 (k * 2) (by omega)).1
  have e1 : ∃ v, (w.setCell ⟨N, k * 2, none⟩ (.int .i32 (sz k))).cell? ⟨N, k * 2 + 1, none⟩ = some v := by
    rw [World.cell?_setCell_other _ _ _ _ (by simp)]; exact (h.2 (k * 2 + 1) (by omega)).1
  have same : ∀ j, j ≠ k * 2 → j ≠ k * 2 + 1 → ((w.setCell ⟨N, k * 2, none⟩ (.int .i32 (sz k))).setCell ⟨N, k * 2 + 1, none⟩ (.int .i32 0)).cell? ⟨N, j, none⟩ = w.cell? ⟨N, j, none⟩ := fun j h1 h2 => by
    rw [World.cell?_setCell_other _ _ _ _ (by simp), World.cell?_setCell_other _ _ _ _ (by simp)]
  have c0 : ((w.setCell ⟨N, k * 2, none⟩ (.int .i32 (sz k))).setCell ⟨N, k * 2 + 1, none⟩ (.int .i32 0)).cell? ⟨N, k * 2, none⟩ = some (.int .i32 (sz k)) := by
    rw [World.cell?_setCell_other _ _ _ _ (by simp)]
    obtain ⟨v, hv⟩ := e0
    exact World.cell?_setCell_same' _ _ _ (by rw [hv]; rfl)
  have c1 : ((w.setCell ⟨N, k * 2, none⟩ (.int .i32 (sz k))).setCell ⟨N, k * 2 + 1, none⟩ (.int .i32 0)).cell? ⟨N, k * 2 + 1, none⟩ = some (.int .i32 0) := by
    obtain ⟨v, hv⟩ := e1
    exact World.cell?_setCell_same' _ _ _ (by rw [hv]; rfl)
  refine ⟨fun j hj => ?_, fun j hj => ⟨?_, ?_⟩⟩
  · by_cases hjk : j = k
    · subst hjk; exact ⟨c0, c1⟩
    · rw [same (j * 2) (by omega) (by omega), same (j * 2 + 1) (by omega) (by omega)]
      exact h.1 j (by omega)
  · by_cases h1 : j = k * 2
    · subst h1; exact ⟨_, c0⟩
    · by_cases h2 : j = k * 2 + 1
      · subst h2; exact ⟨_, c1⟩
      · rw [same j h1 h2]; exact (h.2 j hj).1
  · rw [World.frozen?_setCell, World.frozen?_setCell]; exact (h.2 j hj).2

/-- The four cells of a Value that is being made. -/
def ResAt (R : Nat) (w : World) : Prop :=
  (∃ v, w.cell? ⟨R, 0, none⟩ = some v) ∧ (∃ v, w.cell? ⟨R, 1, none⟩ = some v) ∧ (∃ v, w.cell? ⟨R, 2, none⟩ = some v) ∧ (∃ v, w.cell? ⟨R, 3, none⟩ = some v) ∧
  w.frozen? ⟨R, 0, none⟩ = false ∧ w.frozen? ⟨R, 1, none⟩ = false ∧ w.frozen? ⟨R, 2, none⟩ = false ∧ w.frozen? ⟨R, 3, none⟩ = false
theorem resAt_new (w : World) : ResAt w.heap.size (w.alloc (.cells #[.int .u8 0, .slice none 0 0, .slice none 0 0, .nilIface] 32)) := by
  have e : (w.alloc (.cells #[.int .u8 0, .slice none 0 0, .slice none 0 0, .nilIface] 32)).heap[w.heap.size]? = _ := heap_alloc_new w _
  refine ⟨⟨_, (cell_of_row _ _ _ _ _ _ e).trans rfl⟩, ⟨_, (cell_of_row _ _ _ _ _ _ e).trans rfl⟩, ⟨_, (cell_of_row _ _ _ _ _ _ e).trans rfl⟩, ⟨_, (cell_of_row _ _ _ _ _ _ e).trans rfl⟩, ?_, ?_, ?_, ?_⟩ <;> (simp only [World.frozen?, e]; simp)
theorem ResAt.block {R : Nat} {w w' : World} (h : ResAt R w) (hb : w'.heap[R]? = w.heap[R]?) : ResAt R w' := by
  obtain ⟨a0, a1, a2, a3, f0, f1, f2, f3⟩ := h
  refine ⟨?_, ?_, ?_, ?_, ?_, ?_, ?_, ?_⟩
  · rw [World.cell?_of_block (w := w) hb]; exact a0
  · rw [World.cell?_of_block (w := w) hb]; exact a1
  · rw [World.cell?_of_block (w := w) hb]; exact a2
  · rw [World.cell?_of_block (w := w) hb]; exact a3
  · rw [World.frozen?_of_block (w := w) hb]; exact f0
  · rw [World.frozen?_of_block (w := w) hb]; exact f1
  · rw [World.frozen?_of_block (w := w) hb]; exact f2
  · rw [World.frozen?_of_block (w := w) hb]; exact f3
theorem ResAt.kept {R : Nat} {w w' : World} (h : ResAt R w) {row : Option Nat} (hg : w.grownBy w' row) (hr : some R ≠ row) : ResAt R w' := by
  obtain ⟨v, hv⟩ := h.1
  exact h.block (hg.block R (World.block_lt_of_cell? w _ hv) hr)

def ValueMade (w : World) (kind : Int) (vraw : Value) (n : Nat) (sz : Nat → Int) (e : Ending) (w' : World) : Prop :=
  ∃ N, e = .returned (.agg #[.int .u8 kind, vraw, .slice (some ⟨N, 0, none⟩) n n, .nilIface]) ∧ w.heap.size ≤ N ∧ Nest N n sz n w' ∧ Below w.heap.size w w'

set_option maxHeartbeats 400000 in
theorem f12_any (kind : Int) (g rl rc S I n c1 c2 : Nat) (sz : Nat → Int) (w : World) (hn : n ≤ 140000)
    (hS : ∀ j, j < n → w.cell? ⟨S, j, none⟩ = some (.int .i32 (sz j))) (hI : ∀ j, j < n → w.cell? ⟨I, j, none⟩ = some (.int .i32 0)) :
    Calls Tryd.prog 12 #[.int .u8 kind, .slice (some ⟨g, 0, none⟩) rl rc, .slice (some ⟨S, 0, none⟩) n c1, .slice (some ⟨I, 0, none⟩) n c2] w (ValueMade w kind (.slice (some ⟨g, 0, none⟩) rl rc) n sz) := by
  obtain ⟨i0, hi, hz0, hz1, hz2⟩ := info_parts Tryd.info45
  go_enter Tryd.func12, Tryd.ntmps12
  go_wp2_with (at_make; refine wpList_make_full _ rfl _ _ 28 rfl w.heap.size 45 i0 _ 2 Tryd.underlying28 hi hz0 hz1 _ _ _ _ n rfl rfl rfl rfl (by rw [hz2]; omega) (by unfold maxLen; omega) (by simp) ?_)
  intro w1 hown hgrow
  have hbw : Below w.heap.size w w1 := ((Below.refl _ w).alloc (Nat.le_refl _) _).grown hgrow (by simp) (fun _ e => by cases e)
  obtain ⟨_, _, cur, hcur, _, hcs, _⟩ := row_of_owns hown
  have hnest : Nest (w.heap.size + 1) n sz 0 w1 := nest_start hcur (by omega)
  have hres : ResAt w.heap.size w1 := (resAt_new w).kept hgrow (by simp)
  clear hown hgrow hcur hcs
  go_wp2
  go_loopw [16] (fun i wr => ∃ k : Nat, k ≤ n ∧ i = .int .i64 k ∧ Nest (w.heap.size + 1) n sz k wr ∧ ResAt w.heap.size wr ∧ Below w.heap.size w wr) (fun i _ => n - (intOf i).toNat)
  case atStart => exact ⟨0, Nat.zero_le _, rfl, hnest, hres, hbw⟩
  case round =>
    obtain ⟨k, hk, rfl, hn2, hr2, hb2⟩ := hrel
    clear hnest hres hbw
    by_cases hlt : k < n
    · have hSk : wr.cell? ⟨S, k, none⟩ = some (.int .i32 (sz k)) := (hb2.cell (World.block_lt_of_cell? w _ (hS k hlt))).trans (hS k hlt)
      have hIk : wr.cell? ⟨I, k, none⟩ = some (.int .i32 0) := (hb2.cell (World.block_lt_of_cell? w _ (hI k hlt))).trans (hI k hlt)
      obtain ⟨⟨x0, hx0⟩, fx0⟩ := hn2.2 (k * 2) (by omega)
      obtain ⟨⟨x1, hx1⟩, fx1⟩ := hn2.2 (k * 2 + 1) (by omega)
      have hi1 : (k : Int) < (n : Int) := by omega
      clear hS hI
      go_wp2
      go_region
      all_goals
        go_wp2
        go_roundw
        case rel => exact ⟨k + 1, by omega, by go_num, hn2.step hlt, hr2.block (by exact (Below.heap_setCell _ _ _ _ (by simp)).trans (Below.heap_setCell _ _ _ _ (by simp))), ((hb2.setCell (p := ⟨w.heap.size + 1, k * 2, none⟩) (by simp) _).setCell (p := ⟨w.heap.size + 1, k * 2 + 1, none⟩) (by simp) _).drew⟩
        case measure => simp [intOf]; omega
    · obtain rfl : k = n := by omega
      obtain ⟨⟨r0, q0⟩, ⟨r1, q1⟩, ⟨r2, q2⟩, ⟨r3, q3⟩, z0, z1, z2, z3⟩ := hr2
      clear hS hI
      go_wp2
      refine bodyPost_ret (v := .agg #[.int .u8 kind, .slice (some ⟨g, 0, none⟩) rl rc, .slice (some ⟨w.heap.size + 1, 0, none⟩) k k, .nilIface]) (by simp [results, Tryd.results12, go_sem, q0, q1, q2, q3]) rfl ⟨w.heap.size + 1, rfl, by omega, ?_, ?_⟩
      · exact hn2.block ((Below.heap_setCell _ _ _ _ (by simp)).trans ((Below.heap_setCell _ _ _ _ (by simp)).trans ((Below.heap_setCell _ _ _ _ (by simp)).trans (Below.heap_setCell _ _ _ _ (by simp)))))
      · exact (((hb2.setCell (p := ⟨w.heap.size, 0, none⟩) (Nat.le_refl _) _).setCell (p := ⟨w.heap.size, 1, none⟩) (Nat.le_refl _) _).setCell (p := ⟨w.heap.size, 2, none⟩) (Nat.le_refl _) _).setCell (p := ⟨w.heap.size, 3, none⟩) (Nat.le_refl _) _
end Go.Proofs.Qxb6605951aDoor
