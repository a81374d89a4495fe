/-
  The walk of zzBytes.
-/
import Derived.Test.Qxb6613638aFmtS
namespace Go.Proofs.Qxb6613638aFmt
open Go.RowKit Go.Extern

/-- It handed back some bool, true only where p holds. -/
def Bounded (w : World) (p : Prop) (e : Ending) (w' : World) : Prop := ∃ b : Bool, e = .returned (.bool b) ∧ (b = true → p) ∧ Below w.heap.size w w'

/-- All seven are short. -/
def Short7 (l : Nat → Nat) : Prop := l 0 ≤ 1048576 ∧ l 1 ≤ 1048576 ∧ l 2 ≤ 1048576 ∧ l 3 ≤ 1048576 ∧ l 4 ≤ 1048576 ∧ l 5 ≤ 1048576 ∧ l 6 ≤ 1048576

set_option maxRecDepth 20000 in
set_option maxHeartbeats 8000000 in
theorem f17_none (ver : Int) (x : Nat → Option Addr) (l c : Nat → Nat) (ft : ByteArray) (w : World) :
    Calls Tryf.prog 17 #[.int .i64 ver, .agg #[.slice (x 0) (l 0) (c 0), .slice (x 1) (l 1) (c 1), .slice (x 2) (l 2) (c 2), .slice (x 3) (l 3) (c 3), .slice (x 4) (l 4) (c 4), .slice (x 5) (l 5) (c 5), .slice (x 6) (l 6) (c 6)], .pointer none, .string ft] w (Bounded w (Short7 l ∧ ft.size ≤ 1048576)) := by
  obtain ⟨W, hW⟩ : ∃ W, w.alloc (.cells #[.slice (x 0) (l 0) (c 0), .slice (x 1) (l 1) (c 1), .slice (x 2) (l 2) (c 2), .slice (x 3) (l 3) (c 3), .slice (x 4) (l 4) (c 4), .slice (x 5) (l 5) (c 5), .slice (x 6) (l 6) (c 6)] 44) = W := ⟨_, rfl⟩
  have hb : Below w.heap.size w W := by rw [← hW]; exact (Below.refl _ w).alloc (Nat.le_refl _) _
  have hg : W.heap[w.heap.size]? = some (.cells #[.slice (x 0) (l 0) (c 0), .slice (x 1) (l 1) (c 1), .slice (x 2) (l 2) (c 2), .slice (x 3) (l 3) (c 3), .slice (x 4) (l 4) (c 4), .slice (x 5) (l 5) (c 5), .slice (x 6) (l 6) (c 6)] 44 (0, 0)) := by rw [← hW]; exact heap_alloc_new w _
  have q0 : W.cell? ⟨w.heap.size, 0, none⟩ = some (.slice (x 0) (l 0) (c 0)) := cell_of_row _ _ 0 _ _ _ hg
  have q1 : W.cell? ⟨w.heap.size, 1, none⟩ = some (.slice (x 1) (l 1) (c 1)) := cell_of_row _ _ 1 _ _ _ hg
  have q2 : W.cell? ⟨w.heap.size, 2, none⟩ = some (.slice (x 2) (l 2) (c 2)) := cell_of_row _ _ 2 _ _ _ hg
  have q3 : W.cell? ⟨w.heap.size, 3, none⟩ = some (.slice (x 3) (l 3) (c 3)) := cell_of_row _ _ 3 _ _ _ hg
  have q4 : W.cell? ⟨w.heap.size, 4, none⟩ = some (.slice (x 4) (l 4) (c 4)) := cell_of_row _ _ 4 _ _ _ hg
  have q5 : W.cell? ⟨w.heap.size, 5, none⟩ = some (.slice (x 5) (l 5) (c 5)) := cell_of_row _ _ 5 _ _ _ hg
  have q6 : W.cell? ⟨w.heap.size, 6, none⟩ = some (.slice (x 6) (l 6) (c 6)) := cell_of_row _ _ 6 _ _ _ hg
  have HB := hide hb
  clear hb hg
  go_enter Tryf.func17, Tryf.ntmps17
  go_wp2
  all_goals (
    go_ret
    first
      | (refine ⟨false, rfl, fun h => ?_, ?_⟩; (cases h); exact unhide HB)
      | (refine ⟨true, rfl, fun _ => ?_, ?_⟩; (unfold Short7; omega); exact unhide HB))

set_option maxRecDepth 20000 in
set_option maxHeartbeats 8000000 in
theorem f17_some (ver : Int) (x : Nat → Option Addr) (l c : Nat → Nat) (zb zo : Nat) (y : Nat → Option Addr) (m d : Nat → Nat) (ft : ByteArray) (w : World) (hz : ∀ k, k < 7 → w.cell? ⟨zb, zo + k, none⟩ = some (.slice (y k) (m k) (d k))) :
    Calls Tryf.prog 17 #[.int .i64 ver, .agg #[.slice (x 0) (l 0) (c 0), .slice (x 1) (l 1) (c 1), .slice (x 2) (l 2) (c 2), .slice (x 3) (l 3) (c 3), .slice (x 4) (l 4) (c 4), .slice (x 5) (l 5) (c 5), .slice (x 6) (l 6) (c 6)], .pointer (some ⟨zb, zo, none⟩), .string ft] w (Bounded w (Short7 l ∧ Short7 m ∧ ft.size ≤ 1048576)) := by
  obtain ⟨W, hW⟩ : ∃ W, w.alloc (.cells #[.slice (x 0) (l 0) (c 0), .slice (x 1) (l 1) (c 1), .slice (x 2) (l 2) (c 2), .slice (x 3) (l 3) (c 3), .slice (x 4) (l 4) (c 4), .slice (x 5) (l 5) (c 5), .slice (x 6) (l 6) (c 6)] 44) = W := ⟨_, rfl⟩
  have hb : Below w.heap.size w W := by rw [← hW]; exact (Below.refl _ w).alloc (Nat.le_refl _) _
  have hg : W.heap[w.heap.size]? = some (.cells #[.slice (x 0) (l 0) (c 0), .slice (x 1) (l 1) (c 1), .slice (x 2) (l 2) (c 2), .slice (x 3) (l 3) (c 3), .slice (x 4) (l 4) (c 4), .slice (x 5) (l 5) (c 5), .slice (x 6) (l 6) (c 6)] 44 (0, 0)) := by rw [← hW]; exact heap_alloc_new w _
  have q0 : W.cell? ⟨w.heap.size, 0, none⟩ = some (.slice (x 0) (l 0) (c 0)) := cell_of_row _ _ 0 _ _ _ hg
  have q1 : W.cell? ⟨w.heap.size, 1, none⟩ = some (.slice (x 1) (l 1) (c 1)) := cell_of_row _ _ 1 _ _ _ hg
  have q2 : W.cell? ⟨w.heap.size, 2, none⟩ = some (.slice (x 2) (l 2) (c 2)) := cell_of_row _ _ 2 _ _ _ hg
  have q3 : W.cell? ⟨w.heap.size, 3, none⟩ = some (.slice (x 3) (l 3) (c 3)) := cell_of_row _ _ 3 _ _ _ hg
  have q4 : W.cell? ⟨w.heap.size, 4, none⟩ = some (.slice (x 4) (l 4) (c 4)) := cell_of_row _ _ 4 _ _ _ hg
  have q5 : W.cell? ⟨w.heap.size, 5, none⟩ = some (.slice (x 5) (l 5) (c 5)) := cell_of_row _ _ 5 _ _ _ hg
  have q6 : W.cell? ⟨w.heap.size, 6, none⟩ = some (.slice (x 6) (l 6) (c 6)) := cell_of_row _ _ 6 _ _ _ hg
  have hlt : zb < w.heap.size := World.block_lt_of_cell? w _ (hz 0 (by omega))
  have z0 : W.cell? ⟨zb, zo, none⟩ = some (.slice (y 0) (m 0) (d 0)) := (hb.cell (p := ⟨zb, zo, none⟩) hlt).trans (hz 0 (by omega))
  have z1 : W.cell? ⟨zb, zo + 1, none⟩ = some (.slice (y 1) (m 1) (d 1)) := (hb.cell (p := ⟨zb, zo + 1, none⟩) hlt).trans (hz 1 (by omega))
  have z2 : W.cell? ⟨zb, zo + 2, none⟩ = some (.slice (y 2) (m 2) (d 2)) := (hb.cell (p := ⟨zb, zo + 2, none⟩) hlt).trans (hz 2 (by omega))
  have z3 : W.cell? ⟨zb, zo + 3, none⟩ = some (.slice (y 3) (m 3) (d 3)) := (hb.cell (p := ⟨zb, zo + 3, none⟩) hlt).trans (hz 3 (by omega))
  have z4 : W.cell? ⟨zb, zo + 4, none⟩ = some (.slice (y 4) (m 4) (d 4)) := (hb.cell (p := ⟨zb, zo + 4, none⟩) hlt).trans (hz 4 (by omega))
  have z5 : W.cell? ⟨zb, zo + 5, none⟩ = some (.slice (y 5) (m 5) (d 5)) := (hb.cell (p := ⟨zb, zo + 5, none⟩) hlt).trans (hz 5 (by omega))
  have z6 : W.cell? ⟨zb, zo + 6, none⟩ = some (.slice (y 6) (m 6) (d 6)) := (hb.cell (p := ⟨zb, zo + 6, none⟩) hlt).trans (hz 6 (by omega))
  have HB := hide hb
  clear hb hg hz hlt
  go_enter Tryf.func17, Tryf.ntmps17
  go_wp2
  all_goals (
    go_ret
    first
      | (refine ⟨false, rfl, fun h => ?_, ?_⟩; (cases h); exact unhide HB)
      | (refine ⟨true, rfl, fun _ => ?_, ?_⟩; (unfold Short7; omega); exact unhide HB))
end Go.Proofs.Qxb6613638aFmt
