/-
  Errors appended to errors.
-/
import Derived.Test.Qxb6613638aFmtJ
import Derived.Laws.OwnMore
namespace Go.Proofs.Qxb6613638aFmt
open Go.RowKit Go.Extern

/-- An empty list lies nowhere. -/
def NilOr (xs : List Value) (v : Value) : Prop := xs = [] → v = .slice none 0 0

/-- Where the row lies. -/
theorem ownsRow_cases {w : World} {B : Nat} {v : Value} {n : Nat} {xs : List Value} (h : w.ownsRow B 79 1 v n xs) : (v = .slice none 0 0 ∧ n = 0 ∧ xs = []) ∨ ∃ g cap, v = .slice (some ⟨g, 0, none⟩) n cap ∧ B ≤ g ∧ ∀ j u, xs[j]? = some u → w.cell? ⟨g, j, none⟩ = some u := by
  rcases h.2 with ⟨rfl, rfl⟩ | ⟨g, cap, cur, rfl, hb, _⟩
  · exact .inl ⟨rfl, rfl, List.eq_nil_of_length_eq_zero (by simpa using h.1)⟩
  · refine .inr ⟨g, cap, rfl, hb, fun j u hj => ?_⟩
    have := h.cells (g := g) rfl j u hj
    rwa [Addr.add_lit, Nat.zero_add] at this

/-- No error of another list lies in the row. -/
theorem ErrAt.apart {w : World} {B : Nat} {v y : Value} {xs : List Value} {secs : List ByteArray} {s : ByteArray} {r : Option Nat} (h : ErrsL w B v xs secs) (hn : NilOr xs v) (hy : ErrAt w y s r) : ErrAt w y s v.ownBlock := by
  obtain ⟨b, g, msg, h1, h2, h3, h4, h5, _, _⟩ := hy
  refine ⟨b, g, msg, h1, h2, h3, h4, h5, ?_, ?_⟩
  all_goals
    rcases ownsRow_cases h.1 with ⟨rfl, _, _⟩ | ⟨gg, cap, rfl, _, hc⟩
    · intro e; cases e
    · intro e
      simp only [Value.ownBlock, Option.some.injEq] at e
      subst e
      cases hx : xs with
      | nil => have := hn hx; cases this
      | cons x0 xt =>
        have hl := h.2.1
        rw [hx] at hl
        cases hs : secs with
        | nil => rw [hs] at hl; simp at hl
        | cons s0 st =>
          obtain ⟨b0, g0, m0, hx0, _⟩ := h.2.2 0 x0 s0 (by rw [hx]; rfl) (by rw [hs]; rfl)
          have := hc 0 x0 (by rw [hx]; rfl)
          rw [hx0] at this
          first
            | (rw [this] at h2; cases h2; done)
            | (rw [this] at h3; cases h3; done)

theorem ErrsL.append {w w' : World} {B : Nat} {v v' : Value} {xs ys : List Value} {S S' : List ByteArray} (h : ErrsL w B v xs S) (hl : ys.length = S'.length) (hy : ∀ (i : Nat) (x : Value) (s : ByteArray), ys[i]? = some x → S'[i]? = some s → ErrAt w x s v.ownBlock)
    (ho : w'.ownsRow B 79 1 v' (xs.length + ys.length) (xs ++ ys)) (hg : w.grownBy w' v.ownBlock) (hv : v'.ownBlock = v.ownBlock ∨ v'.ownBlock = some w.heap.size) : ErrsL w' B v' (xs ++ ys) (S ++ S') := by
  refine ⟨by simpa using ho, by simp [h.2.1, hl], fun i x s h1 h2 => ?_⟩
  by_cases hi : i < xs.length
  · rw [List.getElem?_append_left hi] at h1
    rw [List.getElem?_append_left (by rw [← h.2.1]; exact hi)] at h2
    exact (h.2.2 i x s h1 h2).kept hg hv
  · rw [List.getElem?_append_right (by omega)] at h1
    rw [List.getElem?_append_right (by rw [← h.2.1]; omega)] at h2
    rw [← h.2.1] at h2
    exact (hy _ x s h1 h2).kept hg hv

/-- The run of the append. -/
theorem errs_join {w0 w w1 : World} {B : Nat} {v v' : Value} {xs ys : List Value} {S S' : List ByteArray} (ty : TypeId) (h : ErrsL w B v xs S) (hn : NilOr xs v) (hb : Below B w0 w) (hB : B = w0.heap.size)
    (hf : ErrsL w1 w.heap.size v' ys S') (hb1 : Below w.heap.size w w1) (hlen : xs.length ≤ 100) (hlen' : ys.length ≤ 100) :
    ∃ v'' w'', (Builtin.append_ #[77, 77] ty #[v, v']).run Tryf.prog w1 = .ok v'' w'' ∧ ErrsL w'' B v'' (xs ++ ys) (S ++ S') ∧ NilOr (xs ++ ys) v'' ∧ Below B w0 w'' := by
  obtain ⟨i79, hi79, hz79, hy79, hx79⟩ := info_parts Tryf.info79
  have hBw : B ≤ w.heap.size := hB ▸ hb.size
  have h1 : ErrsL w1 B v xs S := h.below hb1
  have hb2 : Below B w0 w1 := hb.trans (hb1.mono hBw)
  rcases ownsRow_cases hf.1 with ⟨rfl, _, rfl⟩ | ⟨g, cap, rfl, _, hc⟩
  · have hS : S' = [] := List.eq_nil_of_length_eq_zero (by rw [← hf.2.1]; rfl)
    subst hS
    exact ⟨v, w1, run_append_owned_none (P := Tryf.prog) w1 B 77 ty 79 i79 1 Tryf.underlying77 hi79 v xs.length xs h1.1, by simpa using h1, by simpa [NilOr] using hn, hb2⟩
  · obtain ⟨v'', w'', hr, h3, h4, h5, h6⟩ := run_append_own_at (P := Tryf.prog) w1 B 77 ty 79 i79 .nilIface 1 16 Tryf.underlying77 hi79 hz79 hy79 hx79 rfl (by decide) v xs.length xs h1.1
      ⟨g, 0, none⟩ ys.length cap ys (by simp) (fun j u hj => by rw [Addr.add_lit, Nat.zero_add]; exact hc j u hj) (fun u hu => by
        obtain ⟨i, hi, rfl⟩ := List.getElem_of_mem hu
        obtain ⟨b, gg, m, he, _⟩ := hf.2.2 i _ (S'[i]'(by rw [← hf.2.1]; exact hi)) (List.getElem?_eq_getElem hi) (List.getElem?_eq_getElem (by rw [← hf.2.1]; exact hi))
        rw [he]
        rfl) (by unfold maxLen; omega) (by omega) (Nat.le_trans hBw hb1.size)
    refine ⟨v'', w'', hr, h1.append hf.2.1 (fun i x s hx hs => ErrAt.apart h1 hn (hf.2.2 i x s hx hs)) h3 h4 h6, fun he => ?_, hb2.grown h4 (Nat.le_trans hBw hb1.size) (fun k e => (h1.1.lt k e).1)⟩
    have he' := List.append_eq_nil_iff.1 he
    exact h5.2 ⟨hn he'.1, by rw [he'.2]; rfl⟩

/-- At the operation. -/
theorem errs_joined {ops : Array Oper} {rest : List Oper} {o : Oper} {a : Act} {Q : Exit → Act → World → Prop} {w0 w w1 : World} {B : Nat} {v v' : Value} {xs ys : List Value} {S S' : List ByteArray}
    (hgd : o.guard = none) (s x : Operand) (ho : o.op = .call { callee := .builtin .append, args := #[s, x], argTypes := #[77, 77] }) (hs : a.eval s = v) (hx : a.eval x = v')
    (h : ErrsL w B v xs S) (hn : NilOr xs v) (hb : Below B w0 w) (hB : B = w0.heap.size)
    (hf : ErrsL w1 w.heap.size v' ys S') (hb1 : Below w.heap.size w w1) (hlen : xs.length ≤ 100) (hlen' : ys.length ≤ 100)
    (k : ∀ v'' w'', Hid (ErrsL w'' B v'' (xs ++ ys) (S ++ S') ∧ NilOr (xs ++ ys) v'' ∧ Below B w0 w'') → wpList Tryf.prog ops Q rest (a.put o.dst v'') w'') : wpList Tryf.prog ops Q (o :: rest) a w1 := by
  refine wpList_plain hgd fun K hK => ?_
  obtain ⟨v'', w'', hr, h1, h2, h3⟩ := errs_join o.type h hn hb hB hf hb1 hlen hlen'
  unfold Oper.wp execOp
  simp only [ho, resolve, invoke, builtin, Sem.run_bind, Sem.run_pure, Result.andThen_ok, List.map_toArray, List.map_cons, List.map_nil, hs, hx, hr]
  exact hK _ _ (k v'' w'' (hide ⟨h1, h2, h3⟩))

theorem blockSecs_len (l : Nat → Nat) (short : Bool) (f g : Nat → Int) : (blockSecs l short f g).length ≤ 4 := by
  unfold blockSecs
  simp only [List.length_append]
  split <;> split <;> split <;> simp <;> split <;> split <;> simp
end Go.Proofs.Qxb6613638aFmt
