/-
  FnVariableRecordedThenShadowed: the row.
-/
import Derived.Test.Qxb6605991aRows
import Derived.Test.Qxb6605991aK
import Derived.ProofKit
import Derived.OpenShut
import Derived.ShutString
import Derived.ChangeOld
import Derived.HandedShaped
import Derived.Shelf.Vars
import Derived.SliceStrings
import Derived.Deep.Slices
namespace Go.Proofs.Qxb6605991a
open Go.ChangeShapes Go.WideShapes Go.ChangeAt Go.RowKit
open Go.ChangeMaps (open_string shut_string)

theorem own : ownKnob Try.prog.godebug = none := by kernel_rfl
theorem laidOut : laidOutB Try.prog = true := by kernel_rfl
theorem c9 : Try.prog.cellsOf 9 = 1 := by kernel_rfl
theorem c22 : Try.prog.cellsOf 22 = 1 := by kernel_rfl
theorem c3 : Try.prog.cellsOf 3 = 1 := by kernel_rfl

section
variable {H : Type} {enc : TypeId × Value → H} {W : World}

/-- A row that begins at x. -/
theorem row_at {x : Addr} {len n : Nat} {F : Nat → Value} (hn : len ≤ n) (h : ∀ i, i < n → W.cell? (x.add i) = some (F i)) : RowAt W (some x) len F := by
  by_cases hl0 : len = 0
  · exact .inl hl0
  · obtain ⟨b, off, spot⟩ := x
    have hspot : spot = none := by simpa [Addr.add] using World.cell?_spot (h 0 (by omega))
    subst hspot
    exact .inr ⟨b, off, rfl, fun k hk => by have := h k (by omega); rwa [Addr.add_lit] at this⟩

theorem strs_of {fuel : Nat} {v : Value} {x : DataW H × List MemPlace} (h : DataW.trod enc Try.prog W 0 (fun _ => true) true fuel 22 [v] = some x) :
    ∃ r : KR, v = .slice r.a r.l r.c ∧ RowAt W r.a r.l (fun k => .string (r.f k)) ∧ r.l ≤ 9223372036854775807 ∧ ∀ k : Nat, (r.f k).size ≤ 9223372036854775807 := by
  rcases open_strings Try.underlying22 Try.underlying9 c9 h with ⟨hcs, _⟩ | ⟨x, l, c, ss, hcs, _, hl, hm, hz, _, hcell, hws⟩
  · simp at hcs
    exact ⟨⟨none, 0, 0, fun _ => ByteArray.empty⟩, hcs, .inl rfl, by simp, fun k => by simp⟩
  · simp at hcs
    have hz' : ss.length = c := by simpa using hz
    have hml : maxLen = 9223372036854775807 := rfl
    refine ⟨⟨some x, l, c, fun k => ss.getD k ByteArray.empty⟩, hcs, row_at (n := ss.length) (show l ≤ _ by omega) hcell, by show l ≤ _; omega, fun k => ?_⟩
    show (ss.getD k ByteArray.empty).size ≤ _
    by_cases hk : k < ss.length
    · rw [List.getD_eq_getElem?_getD, List.getElem?_eq_getElem hk, Option.getD_some]
      exact Nat.le_trans (hws _ (List.getElem_mem hk)) (by omega)
    · rw [List.getD_eq_getElem?_getD, List.getElem?_eq_none (by omega)]
      simp

theorem ints_of {fuel : Nat} {v : Value} {x : DataW H × List MemPlace} (h : DataW.trod enc Try.prog W 0 (fun _ => true) true fuel 24 [v] = some x) :
    ∃ (a : Option Addr) (l c : Nat) (f : Nat → Int), v = .slice a l c ∧ RowAt W a l (fun k => .int .i64 (f k)) ∧ l ≤ 9223372036854775807 := by
  rcases open_ints Try.underlying24 Try.underlying3 c3 h with ⟨hcs, _⟩ | ⟨x, l, c, zs, hcs, _, hl, hm, hz, _, hcell, _⟩
  · simp at hcs
    exact ⟨none, 0, 0, fun _ => 0, hcs, .inl rfl, by simp⟩
  · simp at hcs
    have hz' : zs.length = c := by simpa using hz
    have hml : maxLen = 9223372036854775807 := rfl
    exact ⟨some x, l, c, fun k => zs.getD k 0, hcs, row_at (n := zs.length) (by omega) hcell, by omega⟩

theorem keys_of {fuel : Nat} {v : Value} {x : DataW H × List MemPlace} (h : DataW.trod enc Try.prog W 0 (fun _ => true) true fuel 23 [v] = some x) :
    ∃ (a : Option Addr) (l c : Nat) (r : Nat → KR), v = .slice a l c ∧ KeysAt W a l (fun k => (r k).a) (fun k => (r k).l) (fun k => (r k).c) (fun k => (r k).f) ∧ l ≤ 9223372036854775807 ∧
      (∀ k, (r k).l ≤ 9223372036854775807) ∧ ∀ k j : Nat, ((r k).f j).size ≤ 9223372036854775807 := by
  rcases Deep.open_slice1 Try.underlying23 c22 h with ⟨hcs, _⟩ | ⟨x, l, c, m, n, V, D, Pl, hcs, _, hl, hm, hz, _, hx⟩
  · simp at hcs
    exact ⟨none, 0, 0, fun _ => ⟨none, 0, 0, fun _ => ByteArray.empty⟩, hcs, ⟨.inl rfl, fun k hk => by omega⟩, by simp, fun k => by simp, fun k j => by simp⟩
  · simp at hcs
    have hz' : m = c := by simpa using hz
    have hml : maxLen = 9223372036854775807 := rfl
    obtain ⟨r0, hr0⟩ := @Deep.choose_lt KR ⟨⟨none, 0, 0, fun _ => ByteArray.empty⟩⟩ m (fun i r => V i = .slice r.a r.l r.c ∧ RowAt W r.a r.l (fun k => .string (r.f k)) ∧ r.l ≤ 9223372036854775807 ∧ ∀ k : Nat, (r.f k).size ≤ 9223372036854775807) (fun i hi => strs_of (hx i hi).2)
    obtain ⟨r, hr⟩ : ∃ r : Nat → KR, ∀ i, (i < m → V i = .slice (r i).a (r i).l (r i).c ∧ RowAt W (r i).a (r i).l (fun k => .string ((r i).f k))) ∧ (r i).l ≤ 9223372036854775807 ∧ ∀ k : Nat, ((r i).f k).size ≤ 9223372036854775807 := by
      refine ⟨fun i => if i < m then r0 i else ⟨none, 0, 0, fun _ => ByteArray.empty⟩, fun i => ?_⟩
      by_cases hi : i < m
      · simp only [if_pos hi]
        obtain ⟨h1, h2, h3, h4⟩ := hr0 i hi
        exact ⟨fun _ => ⟨h1, h2⟩, h3, h4⟩
      · simp only [if_neg hi]
        exact ⟨fun h => absurd h hi, by simp, fun k => by simp⟩
    refine ⟨some x, l, c, r, hcs, ⟨row_at (n := m) (by omega) fun i hi => ?_, fun k hk => ((hr k).1 (by omega)).2⟩, by omega, fun k => (hr k).2.1, fun k j => (hr k).2.2 j⟩
    rw [(hx i hi).1, ((hr i).1 hi).1]
end

theorem maxLen_of {W : World} (h : W.ShapedOpen Try.prog) : ∃ m, W.cell? ⟨0, 0, none⟩ = some (.int .i64 m) :=
  cell_of_shapedOpen_int (t := 3) (zero := #[.int .i64 0]) h (of_decide_eq_true (by kernel_rfl)) (by kernel_rfl) rfl (by kernel_rfl) (by kernel_rfl) Try.underlying3

set_option maxRecDepth 100000 in
theorem lifted (os : Os) (started : os.Started) (H : Type) (enc : TypeId × Value → H) :
    ReturnsInHanded {} Try.checked os 3 .any (Rows.fnVariableRecordedThenShadowedSpec.pre6 enc Try.prog Try.f3 Rows.fnVariableRecordedThenShadowedRow.domain false) (Rows.fnVariableRecordedThenShadowedSpec.post enc Try.prog Try.f3 false true false false) := by
  refine returnsInHanded_of_change_shaped (C := Try.checked) own started (by kernel_rfl) Try.func3
    (ChangeSpec.witness6 (enc := enc) (C := Try.checked) false ⟨#[], #[.string ByteArray.empty, .slice none 0 0, .slice none 0 0, .slice none 0 0, .slice none 0 0, .slice none 0 0, .slice none 0 0, .string ByteArray.empty, .int .i64 0, .string ByteArray.empty], []⟩ 8 (by kernel_rfl) (by kernel_rfl) (by kernel_rfl) (by kernel_rfl)) ?_
  intro W base args ds gs before hval0 hW hcnd _ hsh _
  have hval : ∀ (j : Nat) t v, Try.f3.params[j]? = some t → args[j]? = some v → Value.okWide Try.prog W .any base t v := hval0
  have hW' := hW
  obtain ⟨p, q, hA0, hV, rfl, hfz, hnd⟩ := hW
  have hA : DataW.TrodAll enc Try.prog W 0 (fun _ => true) true Try.f3.params.toList args.toList ds p := hA0
  rw [Try.params3] at hA hval
  obtain ⟨v0, vs0, d0, ds0, p0, q0, hargs, rfl, rfl, h0, r0⟩ := trodAll_cons hA
  obtain ⟨v1, vs1, d1, ds1, p1, q1, rfl, rfl, rfl, h1, r1⟩ := trodAll_cons r0
  obtain ⟨v2, vs2, d2, ds2, p2, q2, rfl, rfl, rfl, h2, r2⟩ := trodAll_cons r1
  obtain ⟨v3, vs3, d3, ds3, p3, q3, rfl, rfl, rfl, h3, r3⟩ := trodAll_cons r2
  obtain ⟨v4, vs4, d4, ds4, p4, q4, rfl, rfl, rfl, h4, r4⟩ := trodAll_cons r3
  obtain ⟨v5, vs5, d5, ds5, p5, q5, rfl, rfl, rfl, h5, r5⟩ := trodAll_cons r4
  obtain ⟨v6, vs6, d6, ds6, p6, q6, rfl, rfl, rfl, h6, r6⟩ := trodAll_cons r5
  obtain ⟨v7, vs7, d7, ds7, p7, q7, rfl, rfl, rfl, h7, r7⟩ := trodAll_cons r6
  obtain ⟨v8, vs8, d8, ds8, p8, q8, rfl, rfl, rfl, h8, r8⟩ := trodAll_cons r7
  obtain ⟨v9, vs9, d9, ds9, p9, q9, rfl, rfl, rfl, h9, r9⟩ := trodAll_cons r8
  obtain ⟨rfl, rfl, rfl⟩ := trodAll_nil r9
  obtain rfl : args = #[v0, v1, v2, v3, v4, v5, v6, v7, v8, v9] := by cases args; simp_all
  obtain ⟨rfl, rfl⟩ := trodVars_none hV
  have lt : ∀ {t : TypeId} {v : Value} {d : DataW H} {ps : List MemPlace}, DataW.Trod enc Try.prog W 0 (fun _ => true) true t v d ps → ∀ x ∈ ps, x.block < W.heap.size := fun k => by obtain ⟨m, hm⟩ := k; exact DataW.trod_lt m _ _ _ hm
  have k1 := h1; have k2 := h2; have k3 := h3; have k4 := h4; have k5 := h5; have k6 := h6
  obtain ⟨s0, rfl, rfl, rfl, z0⟩ := open_string Try.underlying9 (hval 0 9 v0 rfl rfl) h0
  obtain ⟨s7, rfl, rfl, rfl, z7⟩ := open_string Try.underlying9 (hval 7 9 v7 rfl rfl) h7
  obtain ⟨i8, rfl, rfl, rfl, w8⟩ := open_int Try.underlying3 (hval 8 3 v8 rfl rfl) h8
  obtain ⟨s9, rfl, rfl, rfl, z9⟩ := open_string Try.underlying9 (hval 9 9 v9 rfl rfl) h9
  obtain ⟨a1, n1, c1, rfl⟩ := okWide_slice Try.underlying22 (hval 1 22 v1 rfl rfl)
  obtain ⟨a2, n2, c2, rfl⟩ := okWide_slice Try.underlying23 (hval 2 23 v2 rfl rfl)
  obtain ⟨a3, n3, c3, rfl⟩ := okWide_slice Try.underlying22 (hval 3 22 v3 rfl rfl)
  obtain ⟨a4, n4, c4, rfl⟩ := okWide_slice Try.underlying22 (hval 4 22 v4 rfl rfl)
  obtain ⟨a5, n5, c5, rfl⟩ := okWide_slice Try.underlying24 (hval 5 24 v5 rfl rfl)
  obtain ⟨a6, n6, c6, rfl⟩ := okWide_slice Try.underlying22 (hval 6 22 v6 rfl rfl)
  obtain ⟨_, f1'⟩ := h1
  obtain ⟨_, f2'⟩ := h2
  obtain ⟨_, f3'⟩ := h3
  obtain ⟨_, f4'⟩ := h4
  obtain ⟨_, f5'⟩ := h5
  obtain ⟨_, f6'⟩ := h6
  obtain ⟨R1, e1, g1, l1, y1⟩ := strs_of f1'
  obtain ⟨b2, m2, x2, R2, e2, g2, l2, u2, y2⟩ := keys_of f2'
  obtain ⟨R3, e3, g3, l3, y3⟩ := strs_of f3'
  obtain ⟨R4, e4, g4, l4, y4⟩ := strs_of f4'
  obtain ⟨b5, m5, x5, R5, e5, g5, l5⟩ := ints_of f5'
  obtain ⟨R6, e6, g6, l6, y6⟩ := strs_of f6'
  obtain ⟨m, hm⟩ := maxLen_of hsh
  cases e1; cases e2; cases e3; cases e4; cases e5; cases e6
  clear hA0 hval0
  have hml : maxLen = 9223372036854775807 := rfl
  refine (f3_any s0 (by omega) R1.a a2 R3.a R4.a a5 R6.a R1.l n2 R3.l R4.l n5 R6.l R1.c c2 R3.c R4.c c5 R6.c R1.f R3.f R4.f R6.f R5 (fun k => (R2 k).a) (fun k => (R2 k).l) (fun k => (R2 k).c) (fun k => (R2 k).f) s7 s9 i8 m W g1 g2 g3 g4 g5 g6 l1 l2 l3 l4 l5 l6 u2 y1 y2 y3 y4 y6 (by omega) (by omega) hm).mono fun e W' ⟨he, bel⟩ => ?_
  subst he
  have sh {t : TypeId} {v : Value} {d : DataW H} {ps : List MemPlace} (hr : Try.prog.readableRec t = true) (ht : t < Try.prog.types.size) (k : DataW.Trod enc Try.prog W 0 (fun _ => true) true t v d ps) : DataW.Trod enc Try.prog W' 0 (fun b => decide (b < W.heap.size)) true t v d ps := Below.trod laidOut hr ht k bel (lt k)
  exact ⟨_, rfl, _, _, _, [], _, [], hW', trodAll_mk1 (shut_bool Try.underlying4 _), (trodAll_cons_mk (shut_string Try.underlying9 z0) (trodAll_cons_mk (sh (by kernel_rfl) (of_decide_eq_true (by kernel_rfl)) k1) (trodAll_cons_mk (sh (by kernel_rfl) (of_decide_eq_true (by kernel_rfl)) k2) (trodAll_cons_mk (sh (by kernel_rfl) (of_decide_eq_true (by kernel_rfl)) k3) (trodAll_cons_mk (sh (by kernel_rfl) (of_decide_eq_true (by kernel_rfl)) k4) (trodAll_cons_mk (sh (by kernel_rfl) (of_decide_eq_true (by kernel_rfl)) k5) (trodAll_cons_mk (sh (by kernel_rfl) (of_decide_eq_true (by kernel_rfl)) k6) (trodAll_cons_mk (shut_string Try.underlying9 z7) (trodAll_cons_mk (shut_int Try.underlying3 w8) (trodAll_cons_mk (shut_string Try.underlying9 z9) trodAll_mk0)))))))))), rfl, bel.frame _, fun h => by cases h⟩

/-- The statement. -/
theorem proved : Rows.FnVariableRecordedThenShadowedSaid :=
  OpenClaim.holds_of_wide 3 Try.f3 rfl rfl rfl rfl rfl rfl rfl ⟨rfl, rfl, rfl, rfl, rfl⟩ rfl rfl rfl rfl rfl (by kernel_rfl) Try.func3 (by kernel_rfl)
    (of_decide_eq_true (by kernel_rfl)) (by unfold Func.isWrapper; first | (rw [if_pos (by decide +kernel)]; kernel_rfl) | (rw [if_neg (by decide +kernel)]; exact ⟨rfl, rfl⟩))
    (fun os started H enc _ => lifted os started H enc)
end Go.Proofs.Qxb6605991a
