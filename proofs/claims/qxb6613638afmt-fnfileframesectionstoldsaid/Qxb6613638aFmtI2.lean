/-
  One error appended to the errors.
-/
import Derived.Test.Qxb6613638aFmtI
namespace Go.Proofs.Qxb6613638aFmt
open Go.RowKit Go.Extern

theorem Tryf.info79 : (Tryf.prog.info? 79).map (fun i => (i.zero, i.size, i.bytes)) = some (some .nilIface, 1, 16) := by kernel_rfl

theorem errs_nil (w : World) (B : Nat) : ErrsL w B (.slice none 0 0) [] [] := ⟨⟨rfl, .inl ⟨rfl, rfl⟩⟩, rfl, fun i x s h => by simp at h⟩

theorem Erred.below {w w' : World} {sec : ByteArray} {e : Ending} (h : Erred w sec e w') : Below w.heap.size w w' := by
  obtain ⟨b, g, msg, h1, h2, h3, h4, h5, h6, h7, h8⟩ := h
  exact h8

/-- An error made behind w does not lie in a row that stood in w. -/
theorem Erred.at {w w' : World} {sec : ByteArray} {e : Value} {r : Option Nat} (h : Erred w sec (.returned e) w') (hr : ∀ k, r = some k → k < w.heap.size) : ErrAt w' e sec r := by
  obtain ⟨b, g, msg, h1, h2, h3, h4, h5, h6, h7, h8⟩ := h
  cases h1
  refine ⟨b, g, msg, rfl, h2, h3, h4, h5, ?_, ?_⟩
  · intro e; have := hr _ e.symm; omega
  · intro e; have := hr _ e.symm; omega

/-- The run of the append. -/
theorem errs_run {w0 w w1 : World} {B : Nat} {v e : Value} {xs : List Value} {secs : List ByteArray} {sec : ByteArray} (ty : TypeId) (h : ErrsL w B v xs secs) (hb : Below B w0 w) (hB : B = w0.heap.size) (he : Erred w sec (.returned e) w1) (hlen : xs.length ≤ 100) :
    ∃ v' w', (Builtin.append_ #[77, 77] ty #[v, .slice (some ⟨w1.heap.size, 0, none⟩) 1 1]).run Tryf.prog (w1.alloc (.cells #[e] 79)) = .ok v' w' ∧ ErrsL w' B v' (xs ++ [e]) (secs ++ [sec]) ∧ Below B w0 w' ∧ ∀ p c, w.cell? p = some c → some p.block ≠ v.ownBlock → w'.cell? p = some c := by
  obtain ⟨i79, hi79, hz79, hy79, hx79⟩ := info_parts Tryf.info79
  have hb1 : Below w.heap.size w w1 := he.below
  have hb2 : Below w.heap.size w (w1.alloc (.cells #[e] 79)) := hb1.alloc hb1.size _
  have hBw : B ≤ w.heap.size := hB ▸ hb.size
  have h2 : ErrsL (w1.alloc (.cells #[e] 79)) B v xs secs := h.below hb2
  have hlt : ∀ k, v.ownBlock = some k → k < w.heap.size := fun k e => (h.1.lt k e).2
  have hat : ErrAt (w1.alloc (.cells #[e] 79)) e sec v.ownBlock := (he.at hlt).kept (below_grownBy ((Below.refl _ w1).alloc (Nat.le_refl _) _) _) (.inl rfl)
  have h1c : ∀ u ∈ [e], u.oneCell' = true := by
    obtain ⟨b, g, msg, h1, _⟩ := he
    cases h1
    simp [Value.oneCell']
  obtain ⟨v', w', hr, h3, h4, h5, h6⟩ := run_append_own_at (P := Tryf.prog) (w1.alloc (.cells #[e] 79)) B 77 ty 79 i79 .nilIface 1 16 Tryf.underlying77 hi79 hz79 hy79 hx79 rfl (by decide) v xs.length xs h2.1
    ⟨w1.heap.size, 0, none⟩ 1 1 [e] rfl (fun j u hj => by
      have hj0 : j = 0 := by
        have := (List.getElem?_eq_some_iff.1 hj).1
        simp at this
        omega
      subst hj0
      simp at hj
      subst hj
      exact cell_of_row _ _ 0 _ _ _ (heap_alloc_new w1 _)) h1c (by unfold maxLen; omega) (by omega) (Nat.le_trans hBw hb2.size)
  refine ⟨v', w', hr, h2.snoc hat h3 h4 h6, (hb.trans (hb2.mono hBw)).grown h4 (Nat.le_trans hBw hb2.size) (fun k e => (h.1.lt k e).1), fun p c hp hne => ?_⟩
  exact h4.cell ((hb2.cell (World.block_lt_of_cell? w _ hp)).trans hp) hne

/-- The first error, in a row just made. -/
theorem errs_first {w0 w w1 : World} {sec : ByteArray} {e : Value} (hb : Below w0.heap.size w0 w) (he : Erred w sec (.returned e) w1) (k : Nat) (hk : 1 + k ≤ maxLen) :
    ErrsL (((w1.alloc (.cells #[e] 79)).alloc (.cells (#[e] ++ Builtin.zeroCells #[.nilIface] k) 79)).drew) w0.heap.size (.slice (some ⟨w1.heap.size + 1, 0, none⟩) 1 (1 + k)) [e] [sec] ∧
      Below w0.heap.size w0 (((w1.alloc (.cells #[e] 79)).alloc (.cells (#[e] ++ Builtin.zeroCells #[.nilIface] k) 79)).drew) := by
  have hb1 : Below w0.heap.size w0 w1 := hb.trans (he.below.mono hb.size)
  have hb2 : Below w1.heap.size w1 (((w1.alloc (.cells #[e] 79)).alloc (.cells (#[e] ++ Builtin.zeroCells #[.nilIface] k) 79)).drew) := (((Below.refl _ w1).alloc (Nat.le_refl _) _).alloc (by simp) _).drew
  have hs := hb1.size
  have hg : (((w1.alloc (.cells #[e] 79)).alloc (.cells (#[e] ++ Builtin.zeroCells #[.nilIface] k) 79)).drew).heap[w1.heap.size + 1]? = some (.cells (#[e] ++ Builtin.zeroCells #[.nilIface] k) 79 (0, 0)) := by
    have := heap_alloc_new (w1.alloc (.cells #[e] 79)) (.cells (#[e] ++ Builtin.zeroCells #[.nilIface] k) 79 (0, 0))
    rw [show (w1.alloc (.cells #[e] 79)).heap.size = w1.heap.size + 1 by simp] at this
    exact this
  refine ⟨⟨⟨rfl, .inr ⟨w1.heap.size + 1, 1 + k, _, rfl, by omega, hg, by simp, hk, ?_, ?_⟩⟩, rfl, fun i x s h1 h2 => ?_⟩, hb1.trans (hb2.mono hs)⟩
  · simp [size_zeroCells]
  · simp
  · have hi : i = 0 := by
      have := (List.getElem?_eq_some_iff.1 h1).1
      simp at this
      omega
    subst hi
    simp at h1 h2
    subst h1
    subst h2
    have h3 : ErrAt (w1.alloc (.cells #[e] 79)) e sec none := (he.at (r := none) (fun k h => by cases h)).kept (below_grownBy ((Below.refl _ w1).alloc (Nat.le_refl _) _) _) (.inl rfl)
    exact h3.kept (below_grownBy (((Below.refl _ _).alloc (Nat.le_refl _) _).drew) _) (.inr (by simp [Value.ownBlock]))

/-- At the operation. -/
theorem errs_push {ops : Array Oper} {rest : List Oper} {o : Oper} {a : Act} {Q : Exit → Act → World → Prop} {w0 w w1 : World} {B : Nat} {v e : Value} {xs : List Value} {secs : List ByteArray} {sec : ByteArray}
    (hgd : o.guard = none) (s x : Operand) (ho : o.op = .call { callee := .builtin .append, args := #[s, x], argTypes := #[77, 77] }) (hs : a.eval s = v) (hx : a.eval x = .slice (some ⟨w1.heap.size, 0, none⟩) 1 1)
    (h : ErrsL w B v xs secs) (hb : Below B w0 w) (hB : B = w0.heap.size) (he : Erred w sec (.returned e) w1) (hlen : xs.length ≤ 100)
    (k : ∀ v' w', Hid (ErrsL w' B v' (xs ++ [e]) (secs ++ [sec]) ∧ Below B w0 w') → Hid (∀ p c, w.cell? p = some c → some p.block ≠ v.ownBlock → w'.cell? p = some c) → wpList Tryf.prog ops Q rest (a.put o.dst v') w') : wpList Tryf.prog ops Q (o :: rest) a (w1.alloc (.cells #[e] 79)) := by
  refine wpList_plain hgd fun K hK => ?_
  obtain ⟨v', w', hr, h1, h2, h3⟩ := errs_run o.type h hb hB he hlen
  unfold Oper.wp execOp
  simp only [ho, resolve, invoke, builtin, Sem.run_bind, Sem.run_pure, Result.andThen_ok, List.map_toArray, List.map_cons, List.map_nil, hs, hx, hr]
  exact hK _ _ (k v' w' (hide ⟨h1, h2⟩) (hide h3))
end Go.Proofs.Qxb6613638aFmt
