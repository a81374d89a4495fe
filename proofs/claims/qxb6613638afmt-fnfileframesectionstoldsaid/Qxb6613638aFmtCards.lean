/-
  DERIVED. GIVEN WITH THE SEED: THE CARDS: each row of Qxb6613638aFmtRows.lean that lists a variable, with what it lists TIED to the program's text (the seventh form; the later family's looks); each row that meets fmt, with fmt's text TOLD by the authors' own Lean function (tested against real Go, not proved from fmt's source: count such statements apart). THE CARD IS WHAT COUNTS. Prove the row's statement (the work); the ties are given (Qxb6613638aFmtTie.lean); close each card by the builder's one call (the guide's Derived/Test/ToyasCard.lean, 'card_holds'). Laid BY PROGRAM, IN A SANDBOX (cutbox-door.mjs). By AI agents, Wed Nov 11 2026. No macro, syntax, notation, axiom, sorry.
-/
import Derived.Test.Qxb6613638aFmtRows
import GoSem.ClaimSeven
namespace Go.Proofs.Qxb6613638aFmt
namespace Rows

/-- THE TOLD CARD OF 'zzlaws_root_b1.FnCheckerAddScript'. -/
def fnCheckerAddScriptCard : Claim7 := { stood := { row := fnCheckerAddScriptRow, standIns := [], harness := (true, "5a379ac70acefaf190e4837956d1f8f126175c8690649cb28a2973bfa9fd1033"), looks := true }, told := true, goes := false }
def FnCheckerAddScriptToldSaid : Prop := Claim7.holds Tryf.pinned (.plain (OpenSpec.ofChange fnCheckerAddScriptSpec)) fnCheckerAddScriptCard
/-- ITS FALSE NEIGHBOUR. Refute it at one input. -/
def FnCheckerAddScriptToldWrongFalsely : Prop := Claim7.holds Tryf.pinned (.plain (OpenSpec.ofChange fnCheckerAddScriptWrong)) fnCheckerAddScriptCard

/-- THE TOLD CARD OF 'zzlaws_root_b1.FnFileFrameSections'. -/
def fnFileFrameSectionsCard : Claim7 := { stood := { row := fnFileFrameSectionsRow, standIns := [], harness := (true, "5a379ac70acefaf190e4837956d1f8f126175c8690649cb28a2973bfa9fd1033"), looks := true }, told := true, goes := false }
def FnFileFrameSectionsToldSaid : Prop := Claim7.holds Tryf.pinned (.plain (OpenSpec.ofChange fnFileFrameSectionsSpec)) fnFileFrameSectionsCard
/-- ITS FALSE NEIGHBOUR. Refute it at one input. -/
def FnFileFrameSectionsToldWrongFalsely : Prop := Claim7.holds Tryf.pinned (.plain (OpenSpec.ofChange fnFileFrameSectionsWrong)) fnFileFrameSectionsCard

/-- THE TOLD CARD OF 'zzlaws_root_b1.FnFileFrameFooter'. -/
def fnFileFrameFooterCard : Claim7 := { stood := { row := fnFileFrameFooterRow, standIns := [], harness := (true, "5a379ac70acefaf190e4837956d1f8f126175c8690649cb28a2973bfa9fd1033"), looks := true }, told := true, goes := false }
def FnFileFrameFooterToldSaid : Prop := Claim7.holds Tryf.pinned (.plain (OpenSpec.ofChange fnFileFrameFooterSpec)) fnFileFrameFooterCard
/-- ITS FALSE NEIGHBOUR. Refute it at one input. -/
def FnFileFrameFooterToldWrongFalsely : Prop := Claim7.holds Tryf.pinned (.plain (OpenSpec.ofChange fnFileFrameFooterWrong)) fnFileFrameFooterCard
end Rows
end Go.Proofs.Qxb6613638aFmt
