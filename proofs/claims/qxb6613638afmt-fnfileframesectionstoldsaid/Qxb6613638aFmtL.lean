/-
  The findings.
-/
import Derived.Test.Qxb6613638aFmtK
namespace Go.Proofs.Qxb6613638aFmt
open Go.RowKit Go.Extern

theorem Tryf.info37 : (Tryf.prog.info? 37).map (fun i => (i.zero, i.size, i.bytes)) = some (some (.agg #[.string { data := #[] }, .bool false, .string { data := #[] }]), 3, 40) := by kernel_rfl

/-- A row of the call's own holds findings of these sections, none a warning. -/
def FindsL (w : World) (B : Nat) (v : Value) (secs : List ByteArray) : Prop :=
  ∃ xs, w.ownsRow B 37 3 v secs.length xs ∧ ∀ (i : Nat) (s : ByteArray), secs[i]? = some s → xs[i * 3]? = some (.string s) ∧ xs[i * 3 + 1]? = some (.bool false)

theorem finds_nil (w : World) (B : Nat) : FindsL w B (.slice none 0 0) [] := ⟨[], w.ownsRow_nil B 37 3, fun i s h => by simp at h⟩

theorem finds_run {w0 w : World} {B : Nat} {v : Value} {secs : List ByteArray} {sec msg : ByteArray} (ty : TypeId) (g c : Nat) (h : FindsL w B v secs) (hb : Below B w0 w) (hB : B = w0.heap.size) (h0 : w.cell? ⟨g, 0, none⟩ = some (.string sec)) (h1 : w.cell? ⟨g, 1, none⟩ = some (.bool false))
    (h2 : w.cell? ⟨g, 2, none⟩ = some (.string msg)) (hlen : secs.length ≤ 100) :
    ∃ v' w', (Builtin.append_ #[30, 30] ty #[v, .slice (some ⟨g, 0, none⟩) 1 c]).run Tryf.prog w = .ok v' w' ∧ FindsL w' B v' (secs ++ [sec]) ∧ Below B w0 w' := by
  obtain ⟨i, hi, hz, hy, hx⟩ := info_parts Tryf.info37
  obtain ⟨xs, ho, hc⟩ := h
  have hBw : B ≤ w.heap.size := hB ▸ hb.size
  obtain ⟨v', w', hr, h3, h4, h5, h6⟩ := run_append_own_at (P := Tryf.prog) w B 30 ty 37 i _ 3 40 Tryf.underlying30 hi hz hy hx rfl (by decide) v secs.length xs ho
    ⟨g, 0, none⟩ 1 c [.string sec, .bool false, .string msg] rfl (fun j u hj => by
      have hj3 : j < 3 := by simpa using (List.getElem?_eq_some_iff.1 hj).1
      rw [Addr.add_lit, Nat.zero_add]
      match j, hj, hj3 with
      | 0, hj, _ => simp at hj; subst hj; exact h0
      | 1, hj, _ => simp at hj; subst hj; exact h1
      | 2, hj, _ => simp at hj; subst hj; exact h2) (by simp [Value.oneCell']) (by unfold maxLen; omega) (by omega) hBw
  refine ⟨v', w', hr, ⟨xs ++ [.string sec, .bool false, .string msg], by simpa using h3, fun k s hk => ?_⟩, hb.grown h4 hBw (fun k e => (ho.lt k e).1)⟩
  have hxl : xs.length = secs.length * 3 := ho.1
  by_cases hkl : k < secs.length
  · rw [List.getElem?_append_left hkl] at hk
    rw [List.getElem?_append_left (by omega), List.getElem?_append_left (by omega)]
    exact hc k s hk
  · have hlt := (List.getElem?_eq_some_iff.1 hk).1
    simp at hlt
    obtain rfl : k = secs.length := by omega
    rw [List.getElem?_concat_length] at hk
    cases hk
    rw [List.getElem?_append_right (by omega), List.getElem?_append_right (by omega), hxl]
    simp

/-- At the operation. -/
theorem finds_push {ops : Array Oper} {rest : List Oper} {o : Oper} {a : Act} {Q : Exit → Act → World → Prop} {w0 w : World} {B : Nat} {v : Value} {secs : List ByteArray} {sec msg : ByteArray} {g c : Nat}
    (hgd : o.guard = none) (s x : Operand) (ho : o.op = .call { callee := .builtin .append, args := #[s, x], argTypes := #[30, 30] }) (hs : a.eval s = v) (hx : a.eval x = .slice (some ⟨g, 0, none⟩) 1 c)
    (h : FindsL w B v secs) (hb : Below B w0 w) (hB : B = w0.heap.size) (h0 : w.cell? ⟨g, 0, none⟩ = some (.string sec)) (h1 : w.cell? ⟨g, 1, none⟩ = some (.bool false))
    (h2 : w.cell? ⟨g, 2, none⟩ = some (.string msg)) (hlen : secs.length ≤ 100)
    (k : ∀ v' w', Hid (FindsL w' B v' (secs ++ [sec]) ∧ Below B w0 w') → wpList Tryf.prog ops Q rest (a.put o.dst v') w') : wpList Tryf.prog ops Q (o :: rest) a w := by
  refine wpList_plain hgd fun K hK => ?_
  obtain ⟨v', w', hr, h1, h2⟩ := finds_run o.type g c h hb hB h0 h1 h2 hlen
  unfold Oper.wp execOp
  simp only [ho, resolve, invoke, builtin, Sem.run_bind, Sem.run_pure, Result.andThen_ok, List.map_toArray, List.map_cons, List.map_nil, hs, hx, hr]
  exact hK _ _ (k v' w' (hide ⟨h1, h2⟩))

theorem FindsL.base {w : World} {B B' : Nat} {v : Value} {secs : List ByteArray} (h : FindsL w B v secs) (hB : B' ≤ B) : FindsL w B' v secs := by
  obtain ⟨xs, ho, hc⟩ := h
  refine ⟨xs, ⟨ho.1, ?_⟩, hc⟩
  rcases ho.2 with h0 | ⟨g, cap, cur, h1, h2, h3⟩
  · exact .inl h0
  · exact .inr ⟨g, cap, cur, h1, by omega, h3⟩

theorem FindsL.below {w w' : World} {B : Nat} {v : Value} {secs : List ByteArray} (h : FindsL w B v secs) (hb : Below w.heap.size w w') : FindsL w' B v secs := by
  obtain ⟨xs, ho, hc⟩ := h
  exact ⟨xs, ho.kept (below_grownBy hb none) (by
    cases hv : v.ownBlock with
    | none => exact .inl rfl
    | some b => exact .inr (by simp)), hc⟩
end Go.Proofs.Qxb6613638aFmt
