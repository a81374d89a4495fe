/-
  The walk of header.
-/
import Derived.Test.Qxb6613638aFmtC
import Derived.BigQuiet
import Derived.BigRegion
import Derived.StillTailTactics
namespace Go.Proofs.Qxb6613638aFmt
open Go.RowKit Go.Extern

theorem f45_any (n : Nat) (h : n ≤ 1048576) (w : World) : Calls Tryf.prog 45 #[.int .i64 n] w fun e w' => e = .returned (.int .u32 n) ∧ w' = w := by
  go_enter Tryf.func45, Tryf.ntmps45
  go_wp2
  go_ret
  exact ⟨rfl, rfl⟩

theorem below_set7 {B : Nat} {w w' : World} (h : Below B w w') {g : Nat} (hg : B ≤ g) (a0 a1 a2 a3 a4 a5 a6 : Value) :
    Below B w (((((((w'.setCell ⟨g, 0, none⟩ a0).setCell ⟨g, 1, none⟩ a1).setCell ⟨g, 2, none⟩ a2).setCell ⟨g, 3, none⟩ a3).setCell ⟨g, 4, none⟩ a4).setCell ⟨g, 5, none⟩ a5).setCell ⟨g, 6, none⟩ a6) :=
  ((((((h.setCell (p := ⟨g, 0, none⟩) hg _).setCell (p := ⟨g, 1, none⟩) hg _).setCell (p := ⟨g, 2, none⟩) hg _).setCell (p := ⟨g, 3, none⟩) hg _).setCell (p := ⟨g, 4, none⟩) hg _).setCell (p := ⟨g, 5, none⟩) hg _).setCell (p := ⟨g, 6, none⟩) hg _

theorem Tryf.mixed : Tryf.prog.follows .mixedOrders = true := by kernel_rfl

/-- A block of slices lies at bb, from cell o on. -/
structure BlkAt (w : World) (bb o : Nat) (x : Nat → Option Addr) (l c : Nat → Nat) : Prop where
  cell : ∀ k, k < 7 → w.cell? ⟨bb, o + k, none⟩ = some (.slice (x k) (l k) (c k))
  small : ∀ k, k < 7 → l k ≤ 1048576

set_option maxRecDepth 20000 in
set_option maxHeartbeats 4000000 in
theorem f37_any (bb o : Nat) (x : Nat → Option Addr) (l c : Nat → Nat) (v : Int) (w : World) (h : BlkAt w bb o x l c) :
    Calls Tryf.prog 37 #[.pointer (some ⟨bb, o, none⟩), .int .u8 v] w fun e w' => e = .returned (.agg #[.int .u8 v, .int .u32 (l 6), .int .u32 (l 5), .int .u32 (l 4), .int .u32 (l 0), .int .u32 (l 2), .int .u32 (l 3)]) ∧ Below w.heap.size w w' := by
  obtain ⟨W1, hW1⟩ : ∃ W, w.alloc (.cells #[.int .u8 0, .int .u32 0, .int .u32 0, .int .u32 0, .int .u32 0, .int .u32 0, .int .u32 0] 95) = W := ⟨_, rfl⟩
  have hb1 : Below w.heap.size w W1 := by rw [← hW1]; exact (Below.refl _ w).alloc (Nat.le_refl _) _
  have hlt : bb < w.heap.size := World.block_lt_of_cell? w _ (h.cell 0 (by omega))
  have q : ∀ k, k < 7 → W1.cell? ⟨bb, o + k, none⟩ = some (.slice (x k) (l k) (c k)) := fun k hk => (hb1.cell (p := ⟨bb, o + k, none⟩) hlt).trans (h.cell k hk)
  have q0 : W1.cell? ⟨bb, o, none⟩ = some (.slice (x 0) (l 0) (c 0)) := q 0 (by omega); have q2 := q 2 (by omega); have q3 := q 3 (by omega); have q4 := q 4 (by omega); have q5 := q 5 (by omega); have q6 := q 6 (by omega)
  have s0 := h.small 0 (by omega); have s2 := h.small 2 (by omega); have s3 := h.small 3 (by omega); have s4 := h.small 4 (by omega); have s5 := h.small 5 (by omega); have s6 := h.small 6 (by omega)
  clear q hlt h hb1
  have F : Hid (∀ (n : Nat), n ≤ 1048576 → ∀ (wx : World), Calls Tryf.prog 45 #[.int .i64 n] wx fun e w' => e = .returned (.int .u32 n) ∧ w' = wx) := fun n hn wx => f45_any n hn wx
  go_enter Tryf.func37, Tryf.ntmps37
  go_wp2
  refine wp_region_still_tail 44 Tryf.mixed (by kernel_rfl) ?_
  simp only [List.take_succ_cons, List.take_zero, List.drop_succ_cons, List.drop_zero]
  repeat (first | still_step | (refine wpStill_step (fun K hK => ?_); go_simp; refine ⟨_, unhide F _ (by omega) _, ?_⟩; refine hK _ ?_; clear hK K))
  refine wpStill_nil ?_
  obtain ⟨W2, hW2⟩ : ∃ W, ({ W1 with drawn := W1.drawn + 1 } : World) = W := ⟨_, rfl⟩
  rw [hW2]
  have hce : ∀ k, W2.cell? ⟨w.heap.size, k, none⟩ = (#[.int .u8 0, .int .u32 0, .int .u32 0, .int .u32 0, .int .u32 0, .int .u32 0, .int .u32 0] : Array Value)[k]? := fun k => by
    rw [← hW2, ← hW1]; exact cell_of_row _ _ _ _ _ _ (heap_alloc_new w _)
  have hfr : ∀ k, W2.frozen? ⟨w.heap.size, k, none⟩ = false := fun k => by
    have e : W2.heap[w.heap.size]? = some (.cells #[.int .u8 0, .int .u32 0, .int .u32 0, .int .u32 0, .int .u32 0, .int .u32 0, .int .u32 0] 95 (0, 0)) := by rw [← hW2, ← hW1]; exact heap_alloc_new w _
    simp only [World.frozen?, e]; simp
  have hb2 : Below w.heap.size w W2 := by rw [← hW2, ← hW1]; exact ((Below.refl _ w).alloc (Nat.le_refl _) _).drew
  have r0 : W2.cell? ⟨w.heap.size, 0, none⟩ = some (.int .u8 0) := hce 0
  have r1 : W2.cell? ⟨w.heap.size, 1, none⟩ = some (.int .u32 0) := hce 1
  have r2 : W2.cell? ⟨w.heap.size, 2, none⟩ = some (.int .u32 0) := hce 2
  have r3 : W2.cell? ⟨w.heap.size, 3, none⟩ = some (.int .u32 0) := hce 3
  have r4 : W2.cell? ⟨w.heap.size, 4, none⟩ = some (.int .u32 0) := hce 4
  have r5 : W2.cell? ⟨w.heap.size, 5, none⟩ = some (.int .u32 0) := hce 5
  have r6 : W2.cell? ⟨w.heap.size, 6, none⟩ = some (.int .u32 0) := hce 6
  have g0 := hfr 0; have g1 := hfr 1; have g2 := hfr 2; have g3 := hfr 3; have g4 := hfr 4; have g5 := hfr 5; have g6 := hfr 6
  have HB2 := hide hb2
  clear hce hfr hb2 hW2 hW1 q0 q2 q3 q4 q5 q6 F
  go_wp2
  refine bodyPost_ret (v := .agg #[.int .u8 v, .int .u32 (l 6), .int .u32 (l 5), .int .u32 (l 4), .int .u32 (l 0), .int .u32 (l 2), .int .u32 (l 3)]) (by simp [results, Tryf.results37, go_sem, r0, r1, r2, r3, r4, r5, r6]) rfl ⟨rfl, ?_⟩
  exact below_set7 (unhide HB2) (Nat.le_refl _) _ _ _ _ _ _ _
end Go.Proofs.Qxb6613638aFmt
