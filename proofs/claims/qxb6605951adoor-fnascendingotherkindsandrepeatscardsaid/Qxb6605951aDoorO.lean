/-
  The iterator of Entries, of a dictionary that zzContainer has made: the walk.
-/
import Derived.Test.Qxb6605951aDoorM
import Derived.Test.Qxb6605951aDoorN
import Derived.Stop.RegionWithIn
namespace Go.Proofs.Qxb6605951aDoor
open Go.RowKit Go.Shelf
attribute [local go_sem] Oper.semAt_some

theorem encOf_first {s : ByteArray} {l : List Int} (h : EncOf s l) : ∃ b, l[0]? = some b ∧ 48 ≤ b ∧ b ≤ 57 := by
  obtain ⟨ds, rfl, h1, _, h3⟩ := h
  match ds, h1, h3 with
  | d :: r, _, h3 => exact ⟨d, rfl, h3 d (by simp)⟩

theorem DictData.first {W : World} {g rl rc N k : Nat} {ls : List (List Int)} {f : Nat → ByteArray} (D : DictData W g rl rc N k ls f) (j : Nat) (hj : j < 2 * k) : ∃ b, W.cell? ⟨g, pos ls j, none⟩ = some (.int .u8 b) ∧ 48 ≤ b ∧ b ≤ 57 ∧ 0 < (ls[j]?.getD []).length := by
  have h : ∃ b, (ls[j]?.getD [])[0]? = some b ∧ 48 ≤ b ∧ b ≤ 57 := by
    by_cases hp : j % 2 = 0
    · rw [show j = 2 * (j / 2) by omega]; exact encOf_first (D.key _ (by omega))
    · rw [show j = 2 * (j / 2) + 1 by omega, D.val _ (by omega)]; exact ⟨48, rfl, by omega, by omega⟩
  obtain ⟨b, hb, h1, h2⟩ := h
  exact ⟨b, by simpa using D.raw j 0 b hj hb, h1, h2, (List.getElem?_eq_some_iff.1 hb).1⟩

/-- One step of the cursor over item j. -/
theorem next_item {W : World} {C g rl rc N k : Nat} {ls : List (List Int)} {f : Nat → ByteArray} (D : DictData W g rl rc N k ls f) (hk : k ≤ 70000) (j : Nat) (hj : j < 2 * k) (hgC : g ≠ C)
    (h : CurAt W C 4 (.slice (some ⟨g, 0, none⟩) rl rc) (.slice (some ⟨N, 0, none⟩) (2 * k) (2 * k)) (pos ls j) j) :
    Calls Tryd.prog 22 #[.pointer (some ⟨C, 0, none⟩)] W (NextMore W C 4 (.slice (some ⟨g, 0, none⟩) rl rc) (.slice (some ⟨N, 0, none⟩) (2 * k) (2 * k)) g (pos ls j) j (ls[j]?.getD []).length rc) := by
  obtain ⟨b, hb, h1, h2, h3⟩ := D.first j hj
  exact f22_more C 4 g rl rc N (2 * k) (2 * k) (pos ls j) j (ls[j]?.getD []).length b hj (Nat.le_refl _) (by omega) (by have := D.small; omega) h3 (D.fits j hj) D.le W h (D.nest j hj).1 (D.nest j hj).2 hb (by simp; omega) (by simp; omega) (by simp; omega) hgC

theorem addr_block (a : Addr) (j : Nat) : (a.add j).block = a.block := by unfold Addr.add; split <;> rfl

/-- Bytes that are known in a later world were there before, where their block is old. -/
theorem BytesAt.before {w W : World} {a : Addr} {l : List Int} (h : BytesAt W a l) (hb : Below w.heap.size w W) (ha : a.block < w.heap.size) : BytesAt w a l := fun j x hx =>
  (hb.cell (p := a.add j) (by rw [addr_block]; exact ha)).symm.trans (h j x hx)

/-- The bytes of a key, in whatever later world. -/
theorem DictData.bytes {W : World} {g rl rc N k : Nat} {ls : List (List Int)} {f : Nat → ByteArray} (D : DictData W g rl rc N k ls f) (j : Nat) (hj : j < 2 * k) : BytesAt W ⟨g, pos ls j, none⟩ (ls[j]?.getD []) := fun t x hx => by
  rw [Addr.add_lit]; exact D.raw j t x hj hx

/-- Four cells that hold a Value, and may be written. -/
def BoxAt (w : World) (K : Nat) (v0 v1 v2 v3 : Value) : Prop :=
  w.cell? ⟨K, 0, none⟩ = some v0 ∧ w.cell? ⟨K, 1, none⟩ = some v1 ∧ w.cell? ⟨K, 2, none⟩ = some v2 ∧ w.cell? ⟨K, 3, none⟩ = some v3 ∧
  w.frozen? ⟨K, 0, none⟩ = false ∧ w.frozen? ⟨K, 1, none⟩ = false ∧ w.frozen? ⟨K, 2, none⟩ = false ∧ w.frozen? ⟨K, 3, none⟩ = false

theorem BoxAt.block {w w' : World} {K : Nat} {v0 v1 v2 v3 : Value} (h : BoxAt w K v0 v1 v2 v3) (e : w'.heap[K]? = w.heap[K]?) : BoxAt w' K v0 v1 v2 v3 := by
  obtain ⟨a0, a1, a2, a3, f0, f1, f2, f3⟩ := h
  exact ⟨(World.cell?_of_block (w := w) e).trans a0, (World.cell?_of_block (w := w) e).trans a1, (World.cell?_of_block (w := w) e).trans a2, (World.cell?_of_block (w := w) e).trans a3,
    (World.frozen?_of_block (w := w) e).trans f0, (World.frozen?_of_block (w := w) e).trans f1, (World.frozen?_of_block (w := w) e).trans f2, (World.frozen?_of_block (w := w) e).trans f3⟩
theorem boxAt_new (w : World) (v0 v1 v2 v3 : Value) : BoxAt (w.alloc (.cells #[v0, v1, v2, v3] 32)) w.heap.size v0 v1 v2 v3 := by
  have e : (w.alloc (.cells #[v0, v1, v2, v3] 32)).heap[w.heap.size]? = some (.cells #[v0, v1, v2, v3] 32 (0, 0)) := heap_alloc_new w _
  refine ⟨(cell_of_row _ _ _ _ _ _ e).trans rfl, (cell_of_row _ _ _ _ _ _ e).trans rfl, (cell_of_row _ _ _ _ _ _ e).trans rfl, (cell_of_row _ _ _ _ _ _ e).trans rfl, ?_, ?_, ?_, ?_⟩ <;> (simp only [World.frozen?, e]; simp)
theorem boxAt_set {w : World} {K : Nat} {v0 v1 v2 v3 : Value} (h : BoxAt w K v0 v1 v2 v3) (u0 u1 u2 u3 : Value) : BoxAt ((((w.setCell ⟨K, 0, none⟩ u0).setCell ⟨K, 1, none⟩ u1).setCell ⟨K, 2, none⟩ u2).setCell ⟨K, 3, none⟩ u3) K u0 u1 u2 u3 := by
  obtain ⟨a0, a1, a2, a3, f0, f1, f2, f3⟩ := h
  refine ⟨?_, ?_, ?_, ?_, ?_, ?_, ?_, ?_⟩
  · rw [World.cell?_setCell_other _ _ _ _ (by simp), World.cell?_setCell_other _ _ _ _ (by simp), World.cell?_setCell_other _ _ _ _ (by simp)]; exact World.cell?_setCell_same' _ _ _ (by rw [a0]; rfl)
  · rw [World.cell?_setCell_other _ _ _ _ (by simp), World.cell?_setCell_other _ _ _ _ (by simp)]; exact World.cell?_setCell_same' _ _ _ (by rw [World.cell?_setCell_other _ _ _ _ (by simp), a1]; rfl)
  · rw [World.cell?_setCell_other _ _ _ _ (by simp)]; exact World.cell?_setCell_same' _ _ _ (by rw [World.cell?_setCell_other _ _ _ _ (by simp), World.cell?_setCell_other _ _ _ _ (by simp), a2]; rfl)
  · exact World.cell?_setCell_same' _ _ _ (by rw [World.cell?_setCell_other _ _ _ _ (by simp), World.cell?_setCell_other _ _ _ _ (by simp), World.cell?_setCell_other _ _ _ _ (by simp), a3]; rfl)
  · rw [World.frozen?_setCell, World.frozen?_setCell, World.frozen?_setCell, World.frozen?_setCell]; exact f0
  · rw [World.frozen?_setCell, World.frozen?_setCell, World.frozen?_setCell, World.frozen?_setCell]; exact f1
  · rw [World.frozen?_setCell, World.frozen?_setCell, World.frozen?_setCell, World.frozen?_setCell]; exact f2
  · rw [World.frozen?_setCell, World.frozen?_setCell, World.frozen?_setCell, World.frozen?_setCell]; exact f3
end Go.Proofs.Qxb6605951aDoor
