/-
  No cell of these rows narrows 'for every input' (looked for: loops, veiled, ifaces, maps, wideKeys, modest, calm, conditions, laid).
  DERIVED. THE GIVEN ROWS OF THIS SEAT. 3 by the template 'for every input the law returns true; each argument reads behind the call as it read before'; 0 by the template 'total and deterministic' (their statements: Qxb6613638aFmtTotals.lean).
  GIVEN WITH THE SEED: the statements are not yours to turn. If you find one false, say at which input.
  Laid BY PROGRAM, IN A SANDBOX (cutbox-rows.mjs): the forced cells as the released guide's own fill.sh prints them over the translation 7f988ab24bced8f3… (all of the seat's roots in one cut). By AI agents, Wed Nov 11 2026. No macro, syntax, notation, axiom, sorry.
-/
import Derived.Test.Qxb6613638aFmtChecked
import GoSem.Claim
import GoSem.ClaimJoined
import GoSem.ClaimMapViews
import Derived.JoinedTies
import Derived.KernelRfl
namespace Go.Proofs.Qxb6613638aFmt
/- THE CELL 'sum', in the pinned program and in every row, IS THE sha256 OF THE DUMP (.gsa) THAT Qxb6613638aFmtProg.lean LOADS. Nothing in Lean hashes anything: it is a label: what it is worth is what the hold of that sum in a sandbox is worth. -/
noncomputable def Tryf.pinned : Pinned := { name := "qxb6613638afmt", sum := "7f988ab24bced8f380ec5db5c52c57b3d06ebe880814646145cdabc0030f3db6", checked := Tryf.checked }
namespace Rows
def none {H : Type} : Left H := { results := [], args := [] }

/-- 'zzlaws_root_b1.FnCheckerAddScript': WHATEVER THE INPUT: true; the input reads as it did. -/
def fnCheckerAddScriptSpec : ChangeSpec := { name := "fnCheckerAddScript", fn := fun _ => fun
  | [d] => { results := [.lit (.bool true)], args := [d] }
  | _ => none }
def fnCheckerAddScriptRow : OpenClaim := { program := "qxb6613638afmt", sum := "7f988ab24bced8f380ec5db5c52c57b3d06ebe880814646145cdabc0030f3db6", func := "example.com/zonecast/zonecast/zzlaws_root_b1.FnCheckerAddScript", spec := "fnCheckerAddScript", stops := ["fmt.Sprintf, its operands' methods called"], inPlace := ["fmt.Sprintf"], unfollowed := true, recurses := true, apart := false }
/-- NO THEOREM (fmt's text is open here; it may be false): for the released tool's asking of the row's closed facts alone. THE STATEMENT IS 'FnCheckerAddScriptToldSaid' (Qxb6613638aFmtCards.lean). -/
def FnCheckerAddScriptFormAsk : Prop := fnCheckerAddScriptRow.holds Tryf.pinned (OpenSpec.ofChange fnCheckerAddScriptSpec)

/-- ITS FALSE NEIGHBOUR: 'it returns false'. Refute it at one input. -/
def fnCheckerAddScriptWrong : ChangeSpec := { name := "fnCheckerAddScript", fn := fun _ => fun
  | [d] => { results := [.lit (.bool false)], args := [d] }
  | _ => none }
def FnCheckerAddScriptWrongFormAsk : Prop := fnCheckerAddScriptRow.holds Tryf.pinned (OpenSpec.ofChange fnCheckerAddScriptWrong)

/-- 'zzlaws_root_b1.FnFileFrameSections': WHATEVER THE INPUT: true; the input reads as it did. -/
def fnFileFrameSectionsSpec : ChangeSpec := { name := "fnFileFrameSections", fn := fun _ => fun
  | [d1, d2, d3, d4] => { results := [.lit (.bool true)], args := [d1, d2, d3, d4] }
  | _ => none }
def fnFileFrameSectionsRow : OpenClaim := { program := "qxb6613638afmt", sum := "7f988ab24bced8f380ec5db5c52c57b3d06ebe880814646145cdabc0030f3db6", func := "example.com/zonecast/zonecast/zzlaws_root_b1.FnFileFrameSections", spec := "fnFileFrameSections", stops := ["fmt.Sprintf, its operands' methods called"], inPlace := ["fmt.Sprintf", "internal/bytealg.IndexByteString"], unfollowed := true, recurses := true, apart := false }
/-- NO THEOREM (fmt's text is open here; it may be false): for the released tool's asking of the row's closed facts alone. THE STATEMENT IS 'FnFileFrameSectionsToldSaid' (Qxb6613638aFmtCards.lean). -/
def FnFileFrameSectionsFormAsk : Prop := fnFileFrameSectionsRow.holds Tryf.pinned (OpenSpec.ofChange fnFileFrameSectionsSpec)

/-- ITS FALSE NEIGHBOUR: 'it returns false'. Refute it at one input. -/
def fnFileFrameSectionsWrong : ChangeSpec := { name := "fnFileFrameSections", fn := fun _ => fun
  | [d1, d2, d3, d4] => { results := [.lit (.bool false)], args := [d1, d2, d3, d4] }
  | _ => none }
def FnFileFrameSectionsWrongFormAsk : Prop := fnFileFrameSectionsRow.holds Tryf.pinned (OpenSpec.ofChange fnFileFrameSectionsWrong)

/-- 'zzlaws_root_b1.FnFileFrameFooter': WHATEVER THE INPUT: true; the input reads as it did. -/
def fnFileFrameFooterSpec : ChangeSpec := { name := "fnFileFrameFooter", fn := fun _ => fun
  | [d1, d2, d3, d4] => { results := [.lit (.bool true)], args := [d1, d2, d3, d4] }
  | _ => none }
def fnFileFrameFooterRow : OpenClaim := { program := "qxb6613638afmt", sum := "7f988ab24bced8f380ec5db5c52c57b3d06ebe880814646145cdabc0030f3db6", func := "example.com/zonecast/zonecast/zzlaws_root_b1.FnFileFrameFooter", spec := "fnFileFrameFooter", stops := ["fmt.Sprintf, its operands' methods called"], inPlace := ["fmt.Sprintf", "internal/bytealg.IndexByteString"], unfollowed := true, recurses := true, apart := false }
/-- NO THEOREM (fmt's text is open here; it may be false): for the released tool's asking of the row's closed facts alone. THE STATEMENT IS 'FnFileFrameFooterToldSaid' (Qxb6613638aFmtCards.lean). -/
def FnFileFrameFooterFormAsk : Prop := fnFileFrameFooterRow.holds Tryf.pinned (OpenSpec.ofChange fnFileFrameFooterSpec)

/-- ITS FALSE NEIGHBOUR: 'it returns false'. Refute it at one input. -/
def fnFileFrameFooterWrong : ChangeSpec := { name := "fnFileFrameFooter", fn := fun _ => fun
  | [d1, d2, d3, d4] => { results := [.lit (.bool false)], args := [d1, d2, d3, d4] }
  | _ => none }
def FnFileFrameFooterWrongFormAsk : Prop := fnFileFrameFooterRow.holds Tryf.pinned (OpenSpec.ofChange fnFileFrameFooterWrong)

end Rows
end Go.Proofs.Qxb6613638aFmt
