/-
  The list of sections wanted.
-/
import Derived.Test.Qxb6613638aFmtJ
import Derived.Test.Qxb6613638aFmtR
import Derived.Deep.CutBlock
namespace Go.Proofs.Qxb6613638aFmt
open Go.RowKit Go.Extern

theorem Tryf.info9 : (Tryf.prog.info? 9).map (fun i => (i.zero, i.size, i.bytes)) = some (some (.string { data := #[] }), 1, 16) := by kernel_rfl

/-- A row of the call's own holds these strings. -/
def WantL (w : World) (B : Nat) (v : Value) (S : List ByteArray) : Prop := w.ownsRow B 9 1 v S.length (S.map Value.string)

theorem want_nil (w : World) (B : Nat) : WantL w B (.slice none 0 0) [] := w.ownsRow_nil B 9 1

theorem WantL.below {w w' : World} {B : Nat} {v : Value} {S : List ByteArray} (h : WantL w B v S) (hb : Below w.heap.size w w') : WantL w' B v S :=
  World.ownsRow.kept h (below_grownBy hb none) (by
    cases hv : v.ownBlock with
    | none => exact .inl rfl
    | some b => exact .inr (by simp))

theorem want_run {w0 w : World} {B : Nat} {v : Value} {S : List ByteArray} (sec : ByteArray) (ty : TypeId) (h : WantL w B v S) (hb : Below B w0 w) (hB : B = w0.heap.size) (hlen : S.length ≤ 100) :
    ∃ v' w', (Builtin.append_ #[58, 58] ty #[v, .slice (some ⟨w.heap.size, 0, none⟩) 1 1]).run Tryf.prog (w.alloc (.cells #[.string sec] 9)) = .ok v' w' ∧ WantL w' B v' (S ++ [sec]) ∧ Below B w0 w' := by
  obtain ⟨i, hi, hz, hy, hx⟩ := info_parts Tryf.info9
  have hBw : B ≤ w.heap.size := hB ▸ hb.size
  have hb2 : Below w.heap.size w (w.alloc (.cells #[.string sec] 9)) := (Below.refl _ w).alloc (Nat.le_refl _) _
  have h2 : WantL (w.alloc (.cells #[.string sec] 9)) B v S := h.below hb2
  obtain ⟨v', w', hr, h3, h4, h5, h6⟩ := run_append_own_at (P := Tryf.prog) (w.alloc (.cells #[.string sec] 9)) B 58 ty 9 i _ 1 16 Tryf.underlying58 hi hz hy hx rfl (by decide) v S.length _ h2
    ⟨w.heap.size, 0, none⟩ 1 1 [.string sec] rfl (cell_one_new _ _ _) (by simp [Value.oneCell']) (by unfold maxLen; omega) (by omega) (Nat.le_trans hBw hb2.size)
  refine ⟨v', w', hr, ?_, (hb.trans (hb2.mono hBw)).grown h4 (Nat.le_trans hBw hb2.size) (fun k e => (World.ownsRow.lt h k e).1)⟩
  unfold WantL
  simpa using h3

/-- At the operation. -/
theorem want_push {ops : Array Oper} {rest : List Oper} {o : Oper} {a : Act} {Q : Exit → Act → World → Prop} {w0 w : World} {B : Nat} {v : Value} {S : List ByteArray} {sec : ByteArray}
    (hgd : o.guard = none) (s x : Operand) (ho : o.op = .call { callee := .builtin .append, args := #[s, x], argTypes := #[58, 58] }) (hs : a.eval s = v) (hx : a.eval x = .slice (some ⟨w.heap.size, 0, none⟩) 1 1)
    (h : Hid (WantL w B v S ∧ Below B w0 w)) (hB : B = w0.heap.size) (hlen : S.length ≤ 100)
    (k : ∀ v' w', Hid (WantL w' B v' (S ++ [sec]) ∧ Below B w0 w') → wpList Tryf.prog ops Q rest (a.put o.dst v') w') : wpList Tryf.prog ops Q (o :: rest) a (w.alloc (.cells #[.string sec] 9)) := by
  refine wpList_plain hgd fun K hK => ?_
  obtain ⟨v', w', hr, h1, h2⟩ := want_run sec o.type (unhide h).1 (unhide h).2 hB hlen
  unfold Oper.wp execOp
  simp only [ho, resolve, invoke, builtin, Sem.run_bind, Sem.run_pure, Result.andThen_ok, List.map_toArray, List.map_cons, List.map_nil, hs, hx, hr]
  exact hK _ _ (k v' w' (hide ⟨h1, h2⟩))

/-- It hands back the sections wanted. -/
def Wanted (w0 : World) (S : List ByteArray) (e : Ending) (w' : World) : Prop := ∃ v, e = .returned v ∧ Hid (WantL w' w0.heap.size v S ∧ Below w0.heap.size w0 w')
end Go.Proofs.Qxb6613638aFmt
