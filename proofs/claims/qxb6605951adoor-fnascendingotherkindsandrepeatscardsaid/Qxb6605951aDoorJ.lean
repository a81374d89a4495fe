/-
  The walk of (*cursor).next.
-/
import Derived.Test.Qxb6605951aDoorI
namespace Go.Proofs.Qxb6605951aDoor
open Go.RowKit

/-- A cursor in block C: the container, the place in its bytes, the place among its extents. -/
def CurAt (w : World) (C : Nat) (kind : Int) (vr vn : Value) (p q : Nat) : Prop :=
  w.cell? ⟨C, 0, none⟩ = some (.int .u8 kind) ∧ w.cell? ⟨C, 1, none⟩ = some vr ∧ w.cell? ⟨C, 2, none⟩ = some vn ∧ w.cell? ⟨C, 3, none⟩ = some .nilIface ∧
  w.cell? ⟨C, 4, none⟩ = some (.int .i64 p) ∧ w.cell? ⟨C, 5, none⟩ = some (.int .i64 q) ∧ w.frozen? ⟨C, 4, none⟩ = false ∧ w.frozen? ⟨C, 5, none⟩ = false

def NextEnd (w : World) (e : Ending) (w' : World) : Prop := e = .returned (.tuple #[.agg #[.int .u8 0, .slice none 0 0, .slice none 0 0, .nilIface], .bool false]) ∧ Below w.heap.size w w'

theorem below_set4 {B : Nat} {a w : World} (h : Below B a w) {R : Nat} (hR : B ≤ R) (u0 u1 u2 u3 : Value) : Below B a ((((w.setCell ⟨R, 0, none⟩ u0).setCell ⟨R, 1, none⟩ u1).setCell ⟨R, 2, none⟩ u2).setCell ⟨R, 3, none⟩ u3) :=
  (((h.setCell (p := ⟨R, 0, none⟩) hR u0).setCell (p := ⟨R, 1, none⟩) hR u1).setCell (p := ⟨R, 2, none⟩) hR u2).setCell (p := ⟨R, 3, none⟩) hR u3

set_option maxHeartbeats 400000 in
theorem f22_end (C : Nat) (kind : Int) (vr : Value) (an : Option Addr) (m mc p q : Nat) (hq : q = m) (w : World) (h : CurAt w C kind vr (.slice an m mc) p q) :
    Calls Tryd.prog 22 #[.pointer (some ⟨C, 0, none⟩)] w (NextEnd w) := by
  obtain ⟨h0, h1, h2, h3, h4, h5, f4, f5⟩ := h
  subst hq
  have hC : C < w.heap.size := World.block_lt_of_cell? w _ h0
  have d0 : ∀ o : Obj, (w.alloc o).cell? ⟨C, 5, none⟩ = some (.int .i64 q) := fun o => (Below.cell ((Below.refl _ w).alloc (Nat.le_refl _) o) (p := ⟨C, 5, none⟩) hC).trans h5
  have d1 : ∀ o : Obj, (w.alloc o).cell? ⟨C, 2, none⟩ = some (.slice an q mc) := fun o => (Below.cell ((Below.refl _ w).alloc (Nat.le_refl _) o) (p := ⟨C, 2, none⟩) hC).trans h2
  clear h0 h1 h2 h3 h4 h5 f4 f5
  go_enter Tryd.func22, Tryd.ntmps22
  go_wp2
  go_quiet (fail)
  go_wp2
  refine bodyPost_ret (v := .tuple #[.agg #[.int .u8 0, .slice none 0 0, .slice none 0 0, .nilIface], .bool false]) (by simp [results, Tryd.results22, go_sem]) rfl ⟨rfl, ?_⟩
  exact below_set4 (below_drewN ((Below.refl _ w).alloc (Nat.le_refl _) _) _) (Nat.le_refl _) _ _ _ _

/-- The value that the cursor steps over was handed back; the cursor has stepped; nothing else has turned. -/
def NextMore (w : World) (C : Nat) (kind : Int) (vr vn : Value) (g p q sz rc : Nat) (e : Ending) (w' : World) : Prop :=
  ∃ an cn, e = .returned (.tuple #[.agg #[.int .u8 2, .slice (some ⟨g, p, none⟩) sz (rc - p), .slice an 0 cn, .nilIface], .bool true]) ∧ CurAt w' C kind vr vn (p + sz) (q + 1) ∧ w.grownBy w' (some C)

theorem next_mid (w : World) (nq sz : Nat) (W1 : World) (h : (((w.alloc (.cells #[.int .u8 0, .slice none 0 0, .slice none 0 0, .nilIface] 32)).drewN (nq + 1)).alloc (.cells #[.int .i32 sz, .int .i32 0] 45)) = W1) :
    Below w.heap.size w W1 ∧ ResAt w.heap.size W1 ∧ W1.cell? ⟨w.heap.size + 1, 0, none⟩ = some (.int .i32 sz) ∧ W1.cell? ⟨w.heap.size + 1, 1, none⟩ = some (.int .i32 0) ∧ W1.heap.size = w.heap.size + 2 := by
  subst h
  have e : ((((w.alloc (.cells #[.int .u8 0, .slice none 0 0, .slice none 0 0, .nilIface] 32)).drewN (nq + 1)).alloc (.cells #[.int .i32 sz, .int .i32 0] 45))).heap[w.heap.size + 1]? = some (.cells #[.int .i32 sz, .int .i32 0] 45 (0, 0)) := by
    have := heap_alloc_new ((w.alloc (.cells #[.int .u8 0, .slice none 0 0, .slice none 0 0, .nilIface] 32)).drewN (nq + 1)) (.cells #[.int .i32 sz, .int .i32 0] 45)
    simpa using this
  refine ⟨(below_drewN ((Below.refl _ w).alloc (Nat.le_refl _) _) _).alloc (by simp) _, ?_, (cell_of_row _ _ _ _ _ _ e).trans rfl, (cell_of_row _ _ _ _ _ _ e).trans rfl, by simp⟩
  exact (resAt_new w).block (by exact heap_alloc_old _ _ (by simp))

theorem heap_set4 (w : World) (R : Nat) (u0 u1 u2 u3 : Value) (k : Nat) (h : k ≠ R) : ((((w.setCell ⟨R, 0, none⟩ u0).setCell ⟨R, 1, none⟩ u1).setCell ⟨R, 2, none⟩ u2).setCell ⟨R, 3, none⟩ u3).heap[k]? = w.heap[k]? :=
  (Below.heap_setCell _ _ _ _ h).trans ((Below.heap_setCell _ _ _ _ h).trans ((Below.heap_setCell _ _ _ _ h).trans (Below.heap_setCell _ _ _ _ h)))

theorem CurAt.block {w w' : World} {C : Nat} {kind : Int} {vr vn : Value} {p q B : Nat} (h : CurAt w C kind vr vn p q) (hC : C < B) (hb : ∀ k, k < B → w'.heap[k]? = w.heap[k]?) : CurAt w' C kind vr vn p q := by
  have e := hb C hC
  obtain ⟨h0, h1, h2, h3, h4, h5, f4, f5⟩ := h
  exact ⟨(World.cell?_of_block (w := w) e).trans h0, (World.cell?_of_block (w := w) e).trans h1, (World.cell?_of_block (w := w) e).trans h2, (World.cell?_of_block (w := w) e).trans h3,
    (World.cell?_of_block (w := w) e).trans h4, (World.cell?_of_block (w := w) e).trans h5, (World.frozen?_of_block (w := w) e).trans f4, (World.frozen?_of_block (w := w) e).trans f5⟩

theorem next_end (w W1 W3 : World) (n C : Nat) (kind : Int) (vr vn : Value) (p q sz g : Nat) (b : Int) (h : ((((W1.drewN n).setCell ⟨C, 4, none⟩ (.int .i64 ((p : Int) + (sz : Int)))).setCell ⟨C, 5, none⟩ (.int .i64 ((q : Int) + 1))).drew) = W3)
    (hc : CurAt W1 C kind vr vn p q) (hbW : Below w.heap.size w W1) (hC : C < w.heap.size) (hres : ResAt w.heap.size W1) (cg : W1.cell? ⟨g, p, none⟩ = some (.int .u8 b)) (hgC : g ≠ C) :
    CurAt W3 C kind vr vn (p + sz) (q + 1) ∧ w.grownBy W3 (some C) ∧ ResAt w.heap.size W3 ∧ W3.cell? ⟨g, p, none⟩ = some (.int .u8 b) := by
  obtain ⟨h0, h1, h2, h3, h4, h5, f4, f5⟩ := hc
  have hk : ∀ k, k ≠ C → W3.heap[k]? = W1.heap[k]? := fun k hk => by
    subst h
    exact (Below.heap_setCell _ _ _ _ hk).trans (Below.heap_setCell _ _ _ _ hk)
  have hcell : ∀ j, j ≠ 4 → j ≠ 5 → W3.cell? ⟨C, j, none⟩ = W1.cell? ⟨C, j, none⟩ := fun j h4 h5 => by
    subst h
    show ((((W1.drewN n).setCell ⟨C, 4, none⟩ (.int .i64 ((p : Int) + (sz : Int)))).setCell ⟨C, 5, none⟩ (.int .i64 ((q : Int) + 1)))).cell? ⟨C, j, none⟩ = _
    rw [World.cell?_setCell_other _ _ _ _ (by simp), World.cell?_setCell_other _ _ _ _ (by simp)]
    simp
  have hfr : ∀ j, W3.frozen? ⟨C, j, none⟩ = W1.frozen? ⟨C, j, none⟩ := fun j => by
    subst h
    show ((((W1.drewN n).setCell ⟨C, 4, none⟩ (.int .i64 ((p : Int) + (sz : Int)))).setCell ⟨C, 5, none⟩ (.int .i64 ((q : Int) + 1)))).frozen? ⟨C, j, none⟩ = _
    rw [World.frozen?_setCell, World.frozen?_setCell]
    simp
  refine ⟨⟨(hcell 0 (by omega) (by omega)).trans h0, (hcell 1 (by omega) (by omega)).trans h1, (hcell 2 (by omega) (by omega)).trans h2, (hcell 3 (by omega) (by omega)).trans h3, ?_, ?_, (hfr 4).trans f4, (hfr 5).trans f5⟩, ?_, hres.block (hk _ (by omega)), (World.cell?_of_block (w := W1) (a := ⟨g, p, none⟩) (hk g hgC)).trans cg⟩
  · subst h
    show ((((W1.drewN n).setCell ⟨C, 4, none⟩ (.int .i64 ((p : Int) + (sz : Int)))).setCell ⟨C, 5, none⟩ (.int .i64 ((q : Int) + 1)))).cell? ⟨C, 4, none⟩ = _
    rw [World.cell?_setCell_other _ _ _ _ (by simp), World.cell?_setCell_same' _ _ _ (by simp [h4])]
    simp
  · subst h
    show ((((W1.drewN n).setCell ⟨C, 4, none⟩ (.int .i64 ((p : Int) + (sz : Int)))).setCell ⟨C, 5, none⟩ (.int .i64 ((q : Int) + 1)))).cell? ⟨C, 5, none⟩ = _
    rw [World.cell?_setCell_same' _ _ _ (by rw [World.cell?_setCell_other _ _ _ _ (by simp)]; simp [h5])]
    simp
  · refine ⟨?_, ?_, ?_, ?_, fun k hk1 hne => (hk k (fun e => hne (by rw [e]))).trans (hbW.block k hk1)⟩
    · subst h; exact hbW.os
    · subst h; exact hbW.tape
    · subst h; exact hbW.output
    · subst h; simpa [World.setCell] using hbW.size

set_option maxHeartbeats 1000000 in
theorem f22_more (C : Nat) (kind : Int) (g rl rc N m mc p q sz : Nat) (b : Int) (hq : q < m) (hmc : m ≤ mc) (hm : mc ≤ 200000) (hrc : rl ≤ 100000000) (hsz : 0 < sz) (hp : p + sz ≤ rl) (hrl : rl ≤ rc) (w : World) (h : CurAt w C kind (.slice (some ⟨g, 0, none⟩) rl rc) (.slice (some ⟨N, 0, none⟩) m mc) p q)
    (hn0 : w.cell? ⟨N, q * 2, none⟩ = some (.int .i32 sz)) (hn1 : w.cell? ⟨N, q * 2 + 1, none⟩ = some (.int .i32 0)) (hb : w.cell? ⟨g, p, none⟩ = some (.int .u8 b)) (b1 : (b == 105) = false) (b2 : (b == 108) = false) (b3 : (b == 100) = false)
    (hgC : g ≠ C) :
    Calls Tryd.prog 22 #[.pointer (some ⟨C, 0, none⟩)] w (NextMore w C kind (.slice (some ⟨g, 0, none⟩) rl rc) (.slice (some ⟨N, 0, none⟩) m mc) g p q sz rc) := by
  obtain ⟨h0, h1, h2, h3, h4, h5, f4, f5⟩ := h
  have hC : C < w.heap.size := World.block_lt_of_cell? w _ h0
  have hN : N < w.heap.size := World.block_lt_of_cell? w _ hn0
  have hg : g < w.heap.size := World.block_lt_of_cell? w _ hb
  have up : ∀ (o : Obj) (a : Addr) (v : Value), w.cell? a = some v → (w.alloc o).cell? a = some v := fun o a v hv => (Below.cell ((Below.refl _ w).alloc (Nat.le_refl _) o) (p := a) (World.block_lt_of_cell? w _ hv)).trans hv
  have k5 : ∀ o : Obj, (w.alloc o).cell? ⟨C, 5, none⟩ = some (.int .i64 q) := fun o => up o _ _ h5
  have k2 : ∀ o : Obj, (w.alloc o).cell? ⟨C, 2, none⟩ = some (.slice (some ⟨N, 0, none⟩) m mc) := fun o => up o _ _ h2
  have kn0 : ∀ o : Obj, (w.alloc o).cell? ⟨N, q * 2, none⟩ = some (.int .i32 sz) := fun o => up o _ _ hn0
  have kn1 : ∀ o : Obj, (w.alloc o).cell? ⟨N, q * 2 + 1, none⟩ = some (.int .i32 0) := fun o => up o _ _ hn1
  have hqi : ((q : Int) == (m : Int)) = false := by simp; omega
  have hqm : (q : Int) < (m : Int) := by omega
  clear up
  go_enter Tryd.func22, Tryd.ntmps22
  go_wp2
  go_quiet (fail)
  go_wp2
  go_region
  obtain ⟨W1, hW1⟩ : ∃ W1, (((w.alloc (.cells #[.int .u8 0, .slice none 0 0, .slice none 0 0, .nilIface] 32)).drewN (nq + 1)).alloc (.cells #[.int .i32 sz, .int .i32 0] 45)) = W1 := ⟨_, rfl⟩
  rw [hW1]
  obtain ⟨hbW, hres, e0, e1, hs1⟩ := next_mid w nq sz W1 hW1
  clear hW1 k5 k2 kn0 kn1
  have c1 := (hbW.cell (p := ⟨C, 1, none⟩) hC).trans h1
  have c2 := (hbW.cell (p := ⟨C, 2, none⟩) hC).trans h2
  have c4 := (hbW.cell (p := ⟨C, 4, none⟩) hC).trans h4
  have c5 := (hbW.cell (p := ⟨C, 5, none⟩) hC).trans h5
  have z4 := (hbW.frozen (p := ⟨C, 4, none⟩) hC).trans f4
  have z5 := (hbW.frozen (p := ⟨C, 5, none⟩) hC).trans f5
  have cg := (hbW.cell (p := ⟨g, p, none⟩) hg).trans hb
  have hpc : ¬ rc = p := by omega
  have hp1 : (p : Int) ≤ (p : Int) + (sz : Int) := by omega
  go_wp2
  go_quiet (fail)
  rename Nat => n1
  rw [Nat.add_sub_cancel_left]
  go_wp2
  go_quiet (fail)
  rename Nat => n2
  obtain ⟨an, han⟩ : ∃ an, (if mc = q + 1 then some (⟨N, 0, none⟩ : Addr) else some ⟨N, (q + 1) * 2, none⟩) = an := ⟨_, rfl⟩
  rw [han]
  clear han
  go_wp2
  go_region
  go_wp2
  go_region
  obtain ⟨W3, hW3⟩ : ∃ W3, ((((W1.drewN (n1 + n2 + 1)).setCell ⟨C, 4, none⟩ (.int .i64 ((p : Int) + (sz : Int)))).setCell ⟨C, 5, none⟩ (.int .i64 ((q : Int) + 1))).drew) = W3 := ⟨_, rfl⟩
  rw [hW3]
  have hc0 := (hbW.cell (p := ⟨C, 0, none⟩) hC).trans h0
  have hc3 := (hbW.cell (p := ⟨C, 3, none⟩) hC).trans h3
  obtain ⟨hcur, hgr, hres3, cg3⟩ := next_end w W1 W3 (n1 + n2 + 1) C kind (.slice (some ⟨g, 0, none⟩) rl rc) (.slice (some ⟨N, 0, none⟩) m mc) p q sz g b hW3 ⟨hc0, c1, c2, hc3, c4, c5, z4, z5⟩ hbW hC hres cg hgC
  clear hW3 c1 c2 c4 c5 z4 z5 cg e0 e1 hres hc0 hc3 h0 h1 h2 h3 h4 h5 f4 f5 hn0 hn1 hb
  obtain ⟨⟨r0, q0⟩, ⟨r1, q1⟩, ⟨r2, q2⟩, ⟨r3, q3⟩, z0, z1, z2, z3⟩ := hres3
  have hz0 : (0 : Int) < (sz : Int) := by omega
  go_wp2_with (go_at_call 26; refine (f26_string b b1 b2 b3 W3).mono ?_; rintro e w' ⟨rfl, rfl⟩)
  refine bodyPost_ret (v := .tuple #[.agg #[.int .u8 2, .slice (some ⟨g, p, none⟩) sz (rc - p), .slice an 0 (mc - (q + 1)), .nilIface], .bool true]) (by simp [results, Tryd.results22, go_sem, q0, q1, q2, q3]) rfl ⟨an, mc - (q + 1), rfl, ?_, ?_⟩
  · exact hcur.block (by omega) (fun b hb => heap_set4 _ _ _ _ _ _ _ (by omega))
  · exact ⟨hgr.os, hgr.tape, hgr.output, by simpa [World.setCell] using hgr.size, fun k hk hne => (heap_set4 _ _ _ _ _ _ _ (by omega)).trans (hgr.block k hk hne)⟩
end Go.Proofs.Qxb6605951aDoor
