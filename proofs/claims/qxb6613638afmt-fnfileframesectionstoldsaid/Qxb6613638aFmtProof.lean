/-
  FnFileFrameSections: the row, and the told card.
-/
import Derived.Test.Qxb6613638aFmtRows
import Derived.Test.Qxb6613638aFmtCards
import Derived.Test.Qxb6613638aFmtZ
import Derived.ProofKit
import Derived.OpenShut
import Derived.ShutString
import Derived.ChangeOld
import Derived.Stop.JoinedAt
import Derived.Stop.JoinedTold
import Derived.SevenToldRow
namespace Go.Proofs.Qxb6613638aFmt
open Go.ChangeShapes Go.WideShapes Go.ChangeAt Go.RowKit
open Go.ChangeMaps (open_string shut_string)

theorem own : ownKnob Tryf.prog.godebug = none := by kernel_rfl
theorem laidOut : laidOutB Tryf.prog = true := by kernel_rfl

set_option maxRecDepth 100000 in
theorem lifted (os : Os) (started : os.Started) (H : Type) (enc : TypeId × Value → H) :
    ReturnsInTold none {} Tryf.checked os 4 .any Input.okWide ((OpenSpec.ofChange Rows.fnFileFrameSectionsSpec).preRow enc Tryf.prog Tryf.f4 [] false []) (fun F => ((OpenSpec.ofChange Rows.fnFileFrameSectionsSpec).at F).post enc Tryf.prog Tryf.f4 false true false false) (aloneAtReturn Tryf.prog) nothingAlways := by
  refine returnsInTold_of_row (C := Tryf.checked) (s := OpenSpec.ofChange Rows.fnFileFrameSectionsSpec) (by kernel_rfl) own started (by kernel_rfl) Tryf.func4
    (OpenSpec.witness_stopped (enc := enc) (C := Tryf.checked) false ⟨#[], #[.int .i64 0, .agg #[.slice none 0 0, .slice none 0 0, .slice none 0 0, .slice none 0 0, .slice none 0 0, .slice none 0 0, .slice none 0 0], .pointer none, .string ByteArray.empty], []⟩ 8 (by kernel_rfl) (by kernel_rfl) (by kernel_rfl) (by kernel_rfl)) ?_
  intro F W base args ds gs before _ hF hval0 hW _ _ _ _ _
  have hval : ∀ (j : Nat) t v, Tryf.f4.params[j]? = some t → args[j]? = some v → Value.okWide Tryf.prog W .any base t v := hval0
  have hW' := hW
  obtain ⟨p, q, hA0, hV, rfl, hfz, hnd⟩ := hW
  have hA : DataW.TrodAll enc Tryf.prog W 0 (fun _ => true) true Tryf.f4.params.toList args.toList ds p := hA0
  rw [Tryf.params4] at hA hval
  obtain ⟨v0, vs0, d0, ds0, p0, q0, hargs, rfl, rfl, h0, r0⟩ := trodAll_cons hA
  obtain ⟨v1, vs1, d1, ds1, p1, q1, rfl, rfl, rfl, h1, r1⟩ := trodAll_cons r0
  obtain ⟨v2, vs2, d2, ds2, p2, q2, rfl, rfl, rfl, h2, r2⟩ := trodAll_cons r1
  obtain ⟨v3, vs3, d3, ds3, p3, q3, rfl, rfl, rfl, h3, r3⟩ := trodAll_cons r2
  obtain ⟨rfl, rfl, rfl⟩ := trodAll_nil r3
  obtain rfl : args = #[v0, v1, v2, v3] := by cases args; simp_all
  obtain ⟨rfl, rfl⟩ := trodVars_none hV
  have lt : ∀ {t : TypeId} {v : Value} {d : DataW H} {ps : List MemPlace}, DataW.Trod enc Tryf.prog W 0 (fun _ => true) true t v d ps → ∀ x ∈ ps, x.block < W.heap.size := fun k => by obtain ⟨m, hm⟩ := k; exact DataW.trod_lt m _ _ _ hm
  obtain ⟨i0, rfl, rfl, rfl, w0⟩ := open_int Tryf.underlying3 (hval 0 3 v0 rfl rfl) h0
  obtain ⟨s3, rfl, rfl, rfl, z3⟩ := open_string Tryf.underlying9 (hval 3 9 v3 rfl rfl) h3
  have ho1 : ∃ cs, v1 = .agg cs ∧ cs.size = 7 := by
    have := hval 1 44 v1 rfl rfl
    unfold Value.okWide at this
    rw [Tryf.underlying44] at this
    obtain ⟨cs, e, hs, _⟩ := this
    exact ⟨cs, e, hs.trans Tryf.c44⟩
  have ho2 := okWide_pointer Tryf.underlying45 (hval 2 45 v2 rfl rfl)
  have fin : ∀ e W', Right W e W' → ∃ v, e = .returned v ∧ ((OpenSpec.ofChange Rows.fnFileFrameSectionsSpec).at F.told).post enc Tryf.prog Tryf.f4 false true false false W #[.int .i64 i0, v1, v2, .string s3] v W' := fun e W' ⟨he, bel⟩ => by
    subst he
    have sh {t : TypeId} {v : Value} {d : DataW H} {ps : List MemPlace} (hr : Tryf.prog.readableRec t = true) (ht : t < Tryf.prog.types.size) (k : DataW.Trod enc Tryf.prog W 0 (fun _ => true) true t v d ps) : DataW.Trod enc Tryf.prog W' 0 (fun b => decide (b < W.heap.size)) true t v d ps := Below.trod laidOut hr ht k bel (lt k)
    exact ⟨_, rfl, _, _, _, [], _, [], hW', trodAll_mk1 (shut_bool Tryf.underlying4 _), (trodAll_cons_mk (shut_int Tryf.underlying3 w0) (trodAll_cons_mk (sh (by kernel_rfl) (of_decide_eq_true (by kernel_rfl)) h1) (trodAll_cons_mk (sh (by kernel_rfl) (of_decide_eq_true (by kernel_rfl)) h2) (trodAll_cons_mk (shut_string Tryf.underlying9 z3) trodAll_mk0)))), rfl, bel.frame _, fun h => by cases h⟩
  obtain ⟨V, e1, x, l, c, tf, tg, th, nf, f, g, hV1, raw⟩ := block_by_value ho1 h1
  rw [hV1 0 (by omega), hV1 1 (by omega), hV1 2 (by omega), hV1 3 (by omega), hV1 4 (by omega), hV1 5 (by omega), hV1 6 (by omega)] at e1
  clear hA0 hval0 hval
  rcases block_by_pointer h2 ho2 with e2 | ⟨b, o, V2, e2, hc2, y, m, d, tf', tg', th', nf', f', g', hV2, raw2⟩
  · subst e1
    subst e2
    exact (f4_none i0 x l c tf tg th nf f g s3 W raw).mono fin
  · subst e1
    subst e2
    exact (f4_some i0 x l c tf tg th nf f g b o y m d tf' tg' th' nf' f' g' s3 W raw raw2 (fun k hk => (hc2 k hk).trans (by rw [hV2 k hk]))).mono fin

theorem Tryf.stops : Tryf.pinned.checked.prog.stops = Rows.fnFileFrameSectionsRow.stops := by kernel_rfl
theorem Tryf.stopKnobs : Tryf.pinned.checked.prog.stopKnobs = [] := by kernel_rfl
theorem Tryf.quiet (os : Os) : Stop.quiet Tryf.pinned.checked.prog os := by
  intro k hk
  rw [Tryf.stopKnobs] at hk
  cases hk

/-- The statement. -/
theorem proved : Rows.FnFileFrameSectionsToldSaid :=
  Claim7.holds_of_told_any 4 Tryf.f4 _ _ [] _ _ _ (by kernel_rfl) rfl rfl rfl laidOut (by kernel_rfl) rfl ⟨rfl, rfl, rfl, rfl, rfl, rfl, rfl⟩ rfl rfl (by kernel_rfl) (by kernel_rfl) Tryf.func4 (by kernel_rfl)
    (of_decide_eq_true (by kernel_rfl)) (of_decide_eq_true (by kernel_rfl)) Tryf.stops.symm rfl Tryf.stopKnobs.symm (by kernel_rfl)
    (by kernel_rfl) (by kernel_rfl) (by kernel_rfl) (by kernel_rfl) (by kernel_rfl) (by kernel_rfl) (by kernel_rfl) (by kernel_rfl) (by kernel_rfl) rfl (by kernel_rfl) rfl rfl
    rfl rfl
    rfl (by kernel_rfl) (by kernel_rfl) (by kernel_rfl) (by decide) (by kernel_rfl)
    (OpenClaim.moreEntering_of (by kernel_rfl) (by kernel_rfl) (by kernel_rfl) (by kernel_rfl) (by kernel_rfl) (by kernel_rfl) (by kernel_rfl) (by kernel_rfl) (by kernel_rfl) (by kernel_rfl))
    ⟨_, WideRow.started_initial, Tryf.quiet _⟩
    (fun os started _ H enc _ => lifted os started H enc)
end Go.Proofs.Qxb6613638aFmt
