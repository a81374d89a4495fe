/-
  No cell of these rows narrows 'for every input' (looked for: loops, veiled, ifaces, maps, wideKeys, modest, calm, conditions, laid).
  DERIVED. THE GIVEN ROWS OF THIS SEAT. 2 by the template 'for every input the law returns true; each argument reads behind the call as it read before'; 0 by the template 'total and deterministic' (their statements: Qxb6612596aTotals.lean).
  GIVEN WITH THE SEED: the statements are not yours to turn. If you find one false, say at which input.
  Laid BY PROGRAM, IN A SANDBOX (cutbox-rows.mjs): the forced cells as the released guide's own fill.sh prints them over the translation a5fd93127bc86dbd… (all of the seat's roots in one cut). By AI agents, Wed Nov 11 2026. No macro, syntax, notation, axiom, sorry.
-/
import Derived.Test.Qxb6612596aChecked
import GoSem.Claim
import GoSem.ClaimJoined
import GoSem.ClaimMapViews
import Derived.JoinedTies
import Derived.KernelRfl
namespace Go.Proofs.Qxb6612596a
/- THE CELL 'sum', in the pinned program and in every row, IS THE sha256 OF THE DUMP (.gsa) THAT Qxb6612596aProg.lean LOADS. Nothing in Lean hashes anything: it is a label: what it is worth is what the hold of that sum in a sandbox is worth. -/
noncomputable def Try.pinned : Pinned := { name := "qxb6612596a", sum := "a5fd93127bc86dbd4462d78306876f9f161bd21b64fa3b561499a75937d78b15", checked := Try.checked }
namespace Rows
def none {H : Type} : Left H := { results := [], args := [] }

/-- 'zzlaws_internal_object_b1.FnAnchorEndAtAnyCut': WHATEVER THE INPUT: true; the input reads as it did. -/
def fnAnchorEndAtAnyCutSpec : ChangeSpec := { name := "fnAnchorEndAtAnyCut", fn := fun _ => fun
  | [d1, d2, d3, d4] => { results := [.lit (.bool true)], args := [d1, d2, d3, d4] }
  | _ => none }
def fnAnchorEndAtAnyCutRow : OpenClaim := { program := "qxb6612596a", sum := "a5fd93127bc86dbd4462d78306876f9f161bd21b64fa3b561499a75937d78b15", func := "example.com/dunlin/dunlin/zzlaws_internal_object_b1.FnAnchorEndAtAnyCut", spec := "fnAnchorEndAtAnyCut", apart := false }
def FnAnchorEndAtAnyCutSaid : Prop := fnAnchorEndAtAnyCutRow.holds Try.pinned (OpenSpec.ofChange fnAnchorEndAtAnyCutSpec)

/-- ITS FALSE NEIGHBOUR: 'it returns false'. Refute it at one input. -/
def fnAnchorEndAtAnyCutWrong : ChangeSpec := { name := "fnAnchorEndAtAnyCut", fn := fun _ => fun
  | [d1, d2, d3, d4] => { results := [.lit (.bool false)], args := [d1, d2, d3, d4] }
  | _ => none }
def FnAnchorEndAtAnyCutWrongFalsely : Prop := fnAnchorEndAtAnyCutRow.holds Try.pinned (OpenSpec.ofChange fnAnchorEndAtAnyCutWrong)

/-- 'zzlaws_internal_object_b1.FnAnchorEndClipsAtLimitAndStaysInURI': WHATEVER THE INPUT: true; the input reads as it did. -/
def fnAnchorEndClipsAtLimitAndStaysInURISpec : ChangeSpec := { name := "fnAnchorEndClipsAtLimitAndStaysInURI", fn := fun _ => fun
  | [d1, d2, d3] => { results := [.lit (.bool true)], args := [d1, d2, d3] }
  | _ => none }
def fnAnchorEndClipsAtLimitAndStaysInURIRow : OpenClaim := { program := "qxb6612596a", sum := "a5fd93127bc86dbd4462d78306876f9f161bd21b64fa3b561499a75937d78b15", func := "example.com/dunlin/dunlin/zzlaws_internal_object_b1.FnAnchorEndClipsAtLimitAndStaysInURI", spec := "fnAnchorEndClipsAtLimitAndStaysInURI", inPlace := ["internal/bytealg.IndexByteString"], apart := false }
def FnAnchorEndClipsAtLimitAndStaysInURISaid : Prop := fnAnchorEndClipsAtLimitAndStaysInURIRow.holds Try.pinned (OpenSpec.ofChange fnAnchorEndClipsAtLimitAndStaysInURISpec)

/-- ITS FALSE NEIGHBOUR: 'it returns false'. Refute it at one input. -/
def fnAnchorEndClipsAtLimitAndStaysInURIWrong : ChangeSpec := { name := "fnAnchorEndClipsAtLimitAndStaysInURI", fn := fun _ => fun
  | [d1, d2, d3] => { results := [.lit (.bool false)], args := [d1, d2, d3] }
  | _ => none }
def FnAnchorEndClipsAtLimitAndStaysInURIWrongFalsely : Prop := fnAnchorEndClipsAtLimitAndStaysInURIRow.holds Try.pinned (OpenSpec.ofChange fnAnchorEndClipsAtLimitAndStaysInURIWrong)

end Rows
end Go.Proofs.Qxb6612596a
