/-
  No cell of these rows narrows 'for every input' (looked for: loops, veiled, ifaces, maps, wideKeys, modest, calm, conditions, laid).
  DERIVED. THE GIVEN ROWS OF THIS SEAT. 1 by the template 'for every input the law returns true; each argument reads behind the call as it read before'; 0 by the template 'total and deterministic' (their statements: Qxb6605991aTotals.lean).
  GIVEN WITH THE SEED: the statements are not yours to turn. If you find one false, say at which input.
  Laid BY PROGRAM, IN A SANDBOX (cutbox-rows.mjs): the forced cells as the released guide's own fill.sh prints them over the translation d17e7678a68dc4b8… (all of the seat's roots in one cut). By AI agents, Wed Nov 11 2026. No macro, syntax, notation, axiom, sorry.
-/
import Derived.Test.Qxb6605991aChecked
import GoSem.Claim
import GoSem.ClaimJoined
import GoSem.ClaimMapViews
import Derived.JoinedTies
import Derived.KernelRfl
namespace Go.Proofs.Qxb6605991a
/- THE CELL 'sum', in the pinned program and in every row, IS THE sha256 OF THE DUMP (.gsa) THAT Qxb6605991aProg.lean LOADS. Nothing in Lean hashes anything: it is a label: what it is worth is what the hold of that sum in a sandbox is worth. -/
noncomputable def Try.pinned : Pinned := { name := "qxb6605991a", sum := "d17e7678a68dc4b89d1f8b3509f4d3e7ae5e227102cc9ce8fb90053dfa49bf60", checked := Try.checked }
namespace Rows
def none {H : Type} : Left H := { results := [], args := [] }

/-- 'zzlaws_config_b1.FnVariableRecordedThenShadowed': WHATEVER THE INPUT: true; the input reads as it did. -/
def fnVariableRecordedThenShadowedSpec : ChangeSpec := { name := "fnVariableRecordedThenShadowed", fn := fun _ => fun
  | [d1, d2, d3, d4, d5, d6, d7, d8, d9, d10] => { results := [.lit (.bool true)], args := [d1, d2, d3, d4, d5, d6, d7, d8, d9, d10] }
  | _ => none }
def fnVariableRecordedThenShadowedRow : OpenClaim := { program := "qxb6605991a", sum := "d17e7678a68dc4b89d1f8b3509f4d3e7ae5e227102cc9ce8fb90053dfa49bf60", func := "example.com/trunkline/trunkline/zzlaws_config_b1.FnVariableRecordedThenShadowed", spec := "fnVariableRecordedThenShadowed", inPlace := ["internal/bytealg.IndexByteString", "internal/bytealg.IndexString"], named := ["internal/bytealg.MaxLen"], plainKeys := false, apart := false }
def FnVariableRecordedThenShadowedSaid : Prop := fnVariableRecordedThenShadowedRow.holds Try.pinned (OpenSpec.ofChange fnVariableRecordedThenShadowedSpec)

/-- ITS FALSE NEIGHBOUR: 'it returns false'. Refute it at one input. -/
def fnVariableRecordedThenShadowedWrong : ChangeSpec := { name := "fnVariableRecordedThenShadowed", fn := fun _ => fun
  | [d1, d2, d3, d4, d5, d6, d7, d8, d9, d10] => { results := [.lit (.bool false)], args := [d1, d2, d3, d4, d5, d6, d7, d8, d9, d10] }
  | _ => none }
def FnVariableRecordedThenShadowedWrongFalsely : Prop := fnVariableRecordedThenShadowedRow.holds Try.pinned (OpenSpec.ofChange fnVariableRecordedThenShadowedWrong)

end Rows
end Go.Proofs.Qxb6605991a
