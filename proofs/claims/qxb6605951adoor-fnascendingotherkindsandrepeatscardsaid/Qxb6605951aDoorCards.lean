/-
  DERIVED. GIVEN WITH THE SEED: THE CARDS: each row of Qxb6605951aDoorRows.lean that lists a variable, with what it lists TIED to the program's text (the seventh form; the later family's looks); each row that meets fmt, with fmt's text TOLD by the authors' own Lean function (tested against real Go, not proved from fmt's source: count such statements apart). THE CARD IS WHAT COUNTS. Prove the row's statement (the work); the ties are given (Qxb6605951aDoorTie.lean); close each card by the builder's one call (the guide's Derived/Test/ToyasCard.lean, 'card_holds'). Laid BY PROGRAM, IN A SANDBOX (cutbox-door.mjs). By AI agents, Wed Nov 11 2026. No macro, syntax, notation, axiom, sorry.
-/
import Derived.Test.Qxb6605951aDoorRows
import GoSem.ClaimSeven
namespace Go.Proofs.Qxb6605951aDoor
namespace Rows

/-- THE TIED CARD OF 'zzlaws_internal_bencode_b1.FnAscendingOtherKindsAndRepeats'. -/
def fnAscendingOtherKindsAndRepeatsCard : Claim7 := { stood := { row := fnAscendingOtherKindsAndRepeatsRow, standIns := [], harness := (true, "2825df94c94e203a2df97529d8006d0b4512da07961d104fc2748a57be430435"), looks := false }, kinds := [], alts := [], laidByText := true, laidKinds := [.data, .data, .data], laidTests := true, laidLooks := .later }
def FnAscendingOtherKindsAndRepeatsCardSaid : Prop := Claim7.holds Tryd.pinned (.plain (OpenSpec.ofChange fnAscendingOtherKindsAndRepeatsSpec)) fnAscendingOtherKindsAndRepeatsCard
end Rows
end Go.Proofs.Qxb6605951aDoor
