/-
  DERIVED. GIVEN WITH THE SEED: THE CARDS: each row of Qxb6605458aDoorRows.lean that lists a variable, with what it lists TIED to the program's text (the seventh form; the later family's looks); each row that meets fmt, with fmt's text TOLD by the authors' own Lean function (tested against real Go, not proved from fmt's source: count such statements apart). THE CARD IS WHAT COUNTS. Prove the row's statement (the work); the ties are given (Qxb6605458aDoorTie.lean); close each card by the builder's one call (the guide's Derived/Test/ToyasCard.lean, 'card_holds'). Laid BY PROGRAM, IN A SANDBOX (cutbox-door.mjs). By AI agents, Wed Nov 11 2026. No macro, syntax, notation, axiom, sorry.
-/
import Derived.Test.Qxb6605458aDoorRows
import GoSem.ClaimSeven
namespace Go.Proofs.Qxb6605458aDoor
namespace Rows

/-- THE TIED CARD OF 'zzlaws_bigworkspace_b1.FnAppendPaddedReadsBackAsN'. -/
def fnAppendPaddedReadsBackAsNCard : Claim7 := { stood := { row := fnAppendPaddedReadsBackAsNRow, standIns := [], harness := (true, "12d5013c939a94468bb35eb185e47148d0bd24aaef4fe38a0720ac1993ddbe53"), looks := false }, kinds := [], alts := [], laidByText := true, laidKinds := [.data, .data, .data], laidTests := true, laidLooks := .later }
def FnAppendPaddedReadsBackAsNCardSaid : Prop := Claim7.holds Tryd.pinned (.plain (OpenSpec.ofChange fnAppendPaddedReadsBackAsNSpec)) fnAppendPaddedReadsBackAsNCard

/-- THE TIED CARD OF 'zzlaws_bigworkspace_b1.FnAppendHoldingsParsesBack'. -/
def fnAppendHoldingsParsesBackCard : Claim7 := { stood := { row := fnAppendHoldingsParsesBackRow, standIns := [], harness := (true, "12d5013c939a94468bb35eb185e47148d0bd24aaef4fe38a0720ac1993ddbe53"), looks := false }, kinds := [], alts := [], laidByText := true, laidKinds := [.data, .data, .data], laidTests := true, laidLooks := .later }
def FnAppendHoldingsParsesBackCardSaid : Prop := Claim7.holds Tryd.pinned (.plain (OpenSpec.ofChange fnAppendHoldingsParsesBackSpec)) fnAppendHoldingsParsesBackCard
end Rows
end Go.Proofs.Qxb6605458aDoor
