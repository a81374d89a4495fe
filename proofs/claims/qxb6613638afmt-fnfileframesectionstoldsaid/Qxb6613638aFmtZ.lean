/-
  A block of lists, as it came in.
-/
import Derived.Test.Qxb6613638aFmtY2
import Derived.Deep.Slices
import Derived.Deep.SlicePairs
import Derived.Deep.Strs
import Derived.Deep.Fields
import Derived.ChangeSlices
import Derived.DataShut
import Derived.ProofKit
import Derived.OpenShut
namespace Go.Proofs.Qxb6613638aFmt
open Go.ChangeShapes Go.WideShapes Go.ChangeAt Go.RowKit

theorem Tryf.c2 : Tryf.prog.cellsOf 2 = 1 := by kernel_rfl
theorem Tryf.c5 : Tryf.prog.cellsOf 5 = 1 := by kernel_rfl
theorem Tryf.c21 : Tryf.prog.cellsOf 21 = 1 := by kernel_rfl
theorem Tryf.c39 : Tryf.prog.cellsOf 39 = 1 := by kernel_rfl
theorem Tryf.c40 : Tryf.prog.cellsOf 40 = 1 := by kernel_rfl
theorem Tryf.c41 : Tryf.prog.cellsOf 41 = 1 := by kernel_rfl
theorem Tryf.c42 : Tryf.prog.cellsOf 42 = 1 := by kernel_rfl
theorem Tryf.c88 : Tryf.prog.cellsOf 88 = 2 := by kernel_rfl
theorem Tryf.c90 : Tryf.prog.cellsOf 90 = 3 := by kernel_rfl

section
variable {H : Type} {enc : TypeId × Value → H} {W : World}

theorem slice_of {t e : TypeId} {fuel : Nat} {v : Value} {x : DataW H × List MemPlace} (ht : Tryf.prog.underlying t = some (.slice e)) (h : DataW.trod enc Tryf.prog W 0 (fun _ => true) true fuel t [v] = some x) : ∃ a l c, v = .slice a l c := by
  rcases Deep.open_slice ht h with ⟨hcs, _⟩ | ⟨a, l, c, m, n, D, Pl, hcs, _⟩
  · simp at hcs
    exact ⟨_, _, _, hcs⟩
  · simp at hcs
    exact ⟨_, _, _, hcs⟩

theorem i64_bounds {n : Int} (h : (Lit.int .i64 n).wf = true) : -9223372036854775808 ≤ n ∧ n ≤ 9223372036854775807 := by
  have := (Lit.wf_int_iff .i64 n).1 h
  simpa [IntKind.min, IntKind.max, IntKind.signed, IntKind.bits] using this

/-- An address at which a cell lies. -/
theorem addr_of {x : Addr} {v : Value} {i : Nat} (h : W.cell? (x.add i) = some v) (hi : i = 0) : ∃ b off, x = ⟨b, off, none⟩ := by
  subst hi
  obtain ⟨b, off, spot⟩ := x
  have hspot : spot = none := by simpa [Addr.add] using World.cell?_spot h
  subst hspot
  exact ⟨b, off, rfl⟩

theorem nums_of {fuel : Nat} {v : Value} {x : DataW H × List MemPlace} (h : DataW.trod enc Tryf.prog W 0 (fun _ => true) true fuel 39 [v] = some x) :
    ∃ (a : Option Addr) (l c : Nat) (f : Nat → Int), v = .slice a l c ∧ NumsAt W a l f := by
  rcases open_ints Tryf.underlying39 Tryf.underlying2 Tryf.c2 h with ⟨hcs, _⟩ | ⟨x, l, c, zs, hcs, _, hl, hm, hz, _, hcell, hw⟩
  · simp at hcs
    exact ⟨none, 0, 0, fun _ => 0, hcs, .inl rfl, fun k => by simp⟩
  · simp at hcs
    have hz' : zs.length = c := by simpa using hz
    refine ⟨some x, l, c, fun k => zs.getD k 0, hcs, ?_, fun k => ?_⟩
    · by_cases hl0 : l = 0
      · exact .inl hl0
      · obtain ⟨b, off, rfl⟩ := addr_of (hcell 0 (by omega)) rfl
        exact .inr ⟨b, off, rfl, fun k hk => by have := hcell k (by omega); rwa [Addr.add_lit] at this⟩
    · show -9223372036854775808 ≤ zs.getD k 0 ∧ zs.getD k 0 ≤ 9223372036854775807
      by_cases hk : k < zs.length
      · have := i64_bounds (hw _ (List.getElem_mem hk))
        rw [List.getD_eq_getElem?_getD, List.getElem?_eq_getElem hk, Option.getD_some]
        exact this
      · rw [List.getD_eq_getElem?_getD, List.getElem?_eq_none (by omega)]
        simp

theorem leaps_of {fuel : Nat} {v : Value} {x : DataW H × List MemPlace} (h : DataW.trod enc Tryf.prog W 0 (fun _ => true) true fuel 42 [v] = some x) :
    ∃ (a : Option Addr) (l c : Nat) (f g : Nat → Int), v = .slice a l c ∧ LeapsAt W a l f g ∧ (a = none → l = 0) := by
  rcases Deep.open_slice_pairs Tryf.underlying42 Tryf.underlying88 Tryf.c88 rfl rfl Tryf.c2 Tryf.c21 h with ⟨hcs, _⟩ | ⟨x, l, c, m, n, V0, V1, D0, D1, P0, P1, hcs, _, hl, hm, hz, _, hx⟩
  · simp at hcs
    exact ⟨none, 0, 0, fun _ => 0, fun _ => 0, hcs, ⟨.inl rfl, fun k => by simp⟩, fun _ => rfl⟩
  · simp at hcs
    have hz' : m = c := by simpa using hz
    have hf : ∀ k, k < m → ∃ z : Int, V0 k = .int .i64 z ∧ -9223372036854775808 ≤ z ∧ z ≤ 9223372036854775807 := fun k hk => by
      obtain ⟨z, e1, _, hwf⟩ := DataW.trod_int Tryf.underlying2 (hx k hk).2.2.1
      simp at e1
      exact ⟨z, e1, i64_bounds hwf⟩
    have hg : ∀ k, k < m → ∃ z : Int, V1 k = .int .i32 z := fun k hk => by
      obtain ⟨z, e1, _, _⟩ := DataW.trod_int Tryf.underlying21 (hx k hk).2.2.2
      simp at e1
      exact ⟨z, e1⟩
    obtain ⟨f, hf⟩ := Deep.choose_lt hf
    obtain ⟨g, hg⟩ := Deep.choose_lt hg
    refine ⟨some x, l, c, fun k => if k < m then f k else 0, g, hcs, ⟨?_, fun k => ?_⟩, fun h => by cases h⟩
    rotate_left
    · show -9223372036854775808 ≤ (if k < m then f k else 0) ∧ (if k < m then f k else 0) ≤ 9223372036854775807
      by_cases hk : k < m
      · rw [if_pos hk]; exact (hf k hk).2
      · rw [if_neg hk]; omega
    by_cases hl0 : l = 0
    · exact .inl hl0
    · obtain ⟨b, off, rfl⟩ := addr_of (hx 0 (by omega)).1 (by omega)
      refine .inr ⟨b, off, rfl, fun k hk => ?_⟩
      obtain ⟨e0, e1, _, _⟩ := hx k (by omega)
      rw [(hf k (by omega)).1, Addr.add_lit] at e0
      rw [hg k (by omega), Addr.add_lit, ← Nat.add_assoc] at e1
      refine ⟨?_, e1⟩
      show W.cell? ⟨b, off + k * 2, none⟩ = some (.int .i64 (if k < m then f k else 0))
      rw [if_pos (show k < m by omega)]
      exact e0

set_option maxRecDepth 20000 in
theorem types_of {fuel : Nat} {v : Value} {x : DataW H × List MemPlace} (h : DataW.trod enc Tryf.prog W 0 (fun _ => true) true fuel 41 [v] = some x) :
    ∃ (a : Option Addr) (l c : Nat) (f g k : Nat → Int), v = .slice a l c ∧ TypesAt W a l f g k ∧ (a = none → l = 0) := by
  rcases Deep.open_slice Tryf.underlying41 h with ⟨hcs, _⟩ | ⟨x, l, c, m, n, D, Pl, hcs, _, hl, hm, hz, _, hx⟩
  · simp at hcs
    exact ⟨none, 0, 0, fun _ => 0, fun _ => 0, fun _ => 0, hcs, .inl rfl, fun _ => rfl⟩
  · simp at hcs
    have hz' : m = c := by simpa using hz
    have hf : ∀ k, k < m → ∃ z : Int × Int × Int, W.cell? (x.add (k * 3)) = some (.int .i32 z.1) ∧ W.cell? (x.add (k * 3 + 1)) = some (.int .u8 z.2.1) ∧ W.cell? (x.add (k * 3 + 2)) = some (.int .u8 z.2.2) := fun k hk => by
        obtain ⟨cs', h1, h2⟩ := hx k hk
        rw [Tryf.c90] at h1
        obtain ⟨_, hlen, hcell⟩ := World.cells?_some h1
        obtain ⟨y0, y1, y2, _, _, _, g0, g1, g2⟩ := Deep.trod_struct3 Tryf.underlying90 h2
        match cs', hlen with
        | [v0, v1, v2], _ =>
          simp [Tryf.c21, Tryf.c5] at g0 g1 g2
          obtain ⟨z0, e0, _, _⟩ := DataW.trod_int Tryf.underlying21 g0
          obtain ⟨z1, e1, _, _⟩ := DataW.trod_int Tryf.underlying5 g1
          obtain ⟨z2, e2, _, _⟩ := DataW.trod_int Tryf.underlying5 g2
          simp at e0 e1 e2
          subst e0
          subst e1
          subst e2
          have q0 := hcell 0 (by omega)
          have q1 := hcell 1 (by omega)
          have q2 := hcell 2 (by omega)
          rw [Deep.add_add] at q0 q1 q2
          exact ⟨(z0, z1, z2), by simpa using q0, by simpa using q1, by simpa using q2⟩
    obtain ⟨f, hf⟩ := Deep.choose_lt hf
    refine ⟨some x, l, c, fun k => (f k).1, fun k => (f k).2.1, fun k => (f k).2.2, hcs, ?_, fun h => by cases h⟩
    by_cases hl0 : l = 0
    · exact .inl hl0
    · obtain ⟨b, off, rfl⟩ := addr_of (hf 0 (by omega)).1 (by omega)
      refine .inr ⟨b, off, rfl, fun k hk => ?_⟩
      obtain ⟨e0, e1, e2⟩ := hf k (by omega)
      rw [Addr.add_lit] at e0 e1 e2
      exact ⟨e0, by rw [← Nat.add_assoc] at e1; exact e1, by rw [← Nat.add_assoc] at e2; exact e2⟩

/-- A block that came in: its seven lists. -/
def BlockIn (W : World) (V : Nat → Value) : Prop :=
  ∃ (x : Nat → Option Addr) (l c : Nat → Nat) (tf tg th nf f g : Nat → Int), (∀ k, k < 7 → V k = .slice (x k) (l k) (c k)) ∧ RawAt W x l tf tg th nf f g

theorem block_in {n : Nat} {V : Nat → Value} {Y : Nat → DataW H × List MemPlace} (h0 : DataW.trod enc Tryf.prog W 0 (fun _ => true) true n 39 [V 0] = some (Y 0)) (h1 : DataW.trod enc Tryf.prog W 0 (fun _ => true) true n 40 [V 1] = some (Y 1))
    (h2 : DataW.trod enc Tryf.prog W 0 (fun _ => true) true n 41 [V 2] = some (Y 2)) (h3 : DataW.trod enc Tryf.prog W 0 (fun _ => true) true n 40 [V 3] = some (Y 3)) (h4 : DataW.trod enc Tryf.prog W 0 (fun _ => true) true n 42 [V 4] = some (Y 4))
    (h5 : DataW.trod enc Tryf.prog W 0 (fun _ => true) true n 40 [V 5] = some (Y 5)) (h6 : DataW.trod enc Tryf.prog W 0 (fun _ => true) true n 40 [V 6] = some (Y 6)) : BlockIn W V := by
  obtain ⟨a0, l0, c0, nf, e0, k0⟩ := nums_of h0
  obtain ⟨a1, l1, c1, e1⟩ := slice_of Tryf.underlying40 h1
  obtain ⟨a2, l2, c2, tf, tg, th, e2, k2, z2⟩ := types_of h2
  obtain ⟨a3, l3, c3, e3⟩ := slice_of Tryf.underlying40 h3
  obtain ⟨a4, l4, c4, f, g, e4, k4, z4⟩ := leaps_of h4
  obtain ⟨a5, l5, c5, e5⟩ := slice_of Tryf.underlying40 h5
  obtain ⟨a6, l6, c6, e6⟩ := slice_of Tryf.underlying40 h6
  refine ⟨fun k => match k with | 0 => a0 | 1 => a1 | 2 => a2 | 3 => a3 | 4 => a4 | 5 => a5 | _ => a6, fun k => match k with | 0 => l0 | 1 => l1 | 2 => l2 | 3 => l3 | 4 => l4 | 5 => l5 | _ => l6,
    fun k => match k with | 0 => c0 | 1 => c1 | 2 => c2 | 3 => c3 | 4 => c4 | 5 => c5 | _ => c6, tf, tg, th, nf, f, g, fun k hk => ?_, ⟨z2, z4, k2, k0, k4⟩⟩
  match k, hk with
  | 0, _ => exact e0
  | 1, _ => exact e1
  | 2, _ => exact e2
  | 3, _ => exact e3
  | 4, _ => exact e4
  | 5, _ => exact e5
  | 6, _ => exact e6

theorem Tryf.c44 : Tryf.prog.cellsOf 44 = 7 := by kernel_rfl

theorem list7 {α : Type} (d : α) : ∀ l : List α, l.length = 7 → l = [l.getD 0 d, l.getD 1 d, l.getD 2 d, l.getD 3 d, l.getD 4 d, l.getD 5 d, l.getD 6 d]
  | [_, _, _, _, _, _, _], _ => rfl

theorem Tryf.size44 {fs : Array Field} (h : Tryf.prog.underlying 44 = some (.struct fs)) : fs.size = 7 := by
  rw [Tryf.underlying44] at h
  cases h
  rfl

/-- A struct's cells, one for each field. -/
theorem struct_cells {t : TypeId} {fs : Array Field} {fuel : Nat} {cs : List Value} {x : DataW H × List MemPlace} (hs : Tryf.prog.underlying t = some (.struct fs)) (hone : Deep.oneCellFields Tryf.prog fs = true) (hcl : cs.length = fs.size)
    (h : DataW.trod enc Tryf.prog W 0 (fun _ => true) true fuel t cs = some x) :
    ∃ (n : Nat) (Y : Nat → DataW H × List MemPlace), ∀ (i : Nat) (f : Field), fs[i]? = some f → DataW.trod enc Tryf.prog W 0 (fun _ => true) true n f.type [cs.getD i undef] = some (Y i) := by
  obtain ⟨xs, n, _, _, hl, hxl, hfs⟩ := DataW.trod_struct hs h
  refine ⟨n, fun i => xs.getD i (.nil, []), fun i f hfi => ?_⟩
  have hi : i < fs.size := (Array.getElem?_eq_some_iff.1 hfi).1
  have g := hfs i f hfi
  obtain ⟨ho, hc1⟩ := Deep.hone_of hone i f hfi
  rw [ho, hc1, Deep.take1_drop cs i undef (by omega)] at g
  rw [g, List.getElem?_eq_getElem (by omega)]
  simp [List.getD, List.getElem?_eq_getElem (show i < xs.length by omega)]

/-- By value. -/
theorem block_by_value {v : Value} {d : DataW H} {ps : List MemPlace} (ho : ∃ cs, v = .agg cs ∧ cs.size = 7) (h : DataW.Trod enc Tryf.prog W 0 (fun _ => true) true 44 v d ps) :
    ∃ V : Nat → Value, v = .agg #[V 0, V 1, V 2, V 3, V 4, V 5, V 6] ∧ BlockIn W V := by
  obtain ⟨cs, rfl, hs⟩ := ho
  obtain ⟨fuel, hf⟩ := h
  have hcl : cs.toList.length = 7 := by simpa using hs
  obtain ⟨n, Y, key⟩ := struct_cells (cs := cs.toList) Tryf.underlying44 (by kernel_rfl) (hcl.trans (Tryf.size44 Tryf.underlying44).symm) hf
  refine ⟨fun k => cs.toList.getD k undef, ?_, ?_⟩
  · congr 1
    have := list7 undef cs.toList hcl
    rw [← Array.toArray_toList (xs := cs)]
    exact congrArg List.toArray this
  · exact block_in (Y := Y) (key 0 _ rfl) (key 1 _ rfl) (key 2 _ rfl) (key 3 _ rfl) (key 4 _ rfl) (key 5 _ rfl) (key 6 _ rfl)

/-- By a pointer. -/
theorem block_by_pointer {v : Value} {d : DataW H} {ps : List MemPlace} (h : DataW.Trod enc Tryf.prog W 0 (fun _ => true) true 45 v d ps) (ho : ∃ a, v = .pointer a) :
    v = .pointer none ∨ ∃ (b : Nat) (o : Nat) (V : Nat → Value), v = .pointer (some ⟨b, o, none⟩) ∧ (∀ k, k < 7 → W.cell? ⟨b, o + k, none⟩ = some (V k)) ∧ BlockIn W V := by
  obtain ⟨a, rfl⟩ := ho
  obtain ⟨fuel, hf⟩ := h
  rcases Deep.open_ptr_fields Tryf.underlying45 Tryf.underlying44 (Deep.hone_of (by kernel_rfl)) (Tryf.c44.trans (Tryf.size44 Tryf.underlying44).symm) (by decide) hf with ⟨h0, _⟩ | ⟨b, o, n, V, Y, h0, _, _, key⟩
  · left
    simpa [Value.cells] using h0
  · right
    refine ⟨b, o, V, by simpa [Value.cells] using h0, fun k hk => ?_, block_in (Y := Y) (key 0 _ rfl).2 (key 1 _ rfl).2 (key 2 _ rfl).2 (key 3 _ rfl).2 (key 4 _ rfl).2 (key 5 _ rfl).2 (key 6 _ rfl).2⟩
    match k, hk with
    | 0, _ => exact (key 0 _ rfl).1
    | 1, _ => exact (key 1 _ rfl).1
    | 2, _ => exact (key 2 _ rfl).1
    | 3, _ => exact (key 3 _ rfl).1
    | 4, _ => exact (key 4 _ rfl).1
    | 5, _ => exact (key 5 _ rfl).1
    | 6, _ => exact (key 6 _ rfl).1
end
end Go.Proofs.Qxb6613638aFmt
