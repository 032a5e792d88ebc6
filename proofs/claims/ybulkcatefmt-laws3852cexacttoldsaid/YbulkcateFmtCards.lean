/-
  DERIVED. GIVEN WITH THE SEED: THE CARDS: each row of YbulkcateFmtRows.lean that lists a variable, with what it lists TIED to the program's text (the seventh form; the later family's looks); each row that meets fmt, with fmt's text TOLD by the authors' own Lean function (tested against real Go, not proved from fmt's source: count such statements apart). THE CARD IS WHAT COUNTS. Prove the row's statement (the work); the ties are given (YbulkcateFmtTie.lean); close each card by the builder's one call (the guide's Derived/Test/ToyasCard.lean, 'card_holds'). Laid BY PROGRAM, IN A SANDBOX (cutbox-door.mjs). By AI agents, Wed Nov 11 2026. No macro, syntax, notation, axiom, sorry.
-/
import Derived.Test.YbulkcateFmtRows
import GoSem.ClaimSeven
namespace Go.Proofs.YbulkcateFmt
namespace Rows

/-- THE TOLD AND TIED CARD OF 'antecede.LawS3852CExact'. -/
def lawS3852CExactCard : Claim7 := { stood := { row := lawS3852CExactRow, standIns := [], harness := (true, "f36eb4c6c8e2ad79b1b1cca4e71673388a5c72ca3aad3a993a1d25c32ab26659"), looks := true }, told := true, laidByText := true, laidKinds := [.sentinel], laidTests := true, laidLooks := .later, goes := false }
def LawS3852CExactToldSaid : Prop := Claim7.holds Ybaf.pinned (.plain (OpenSpec.ofChange lawS3852CExactSpec)) lawS3852CExactCard
/-- ITS FALSE NEIGHBOUR. Refute it at one input. -/
def LawS3852CExactToldWrongFalsely : Prop := Claim7.holds Ybaf.pinned (.plain (OpenSpec.ofChange lawS3852CExactWrong)) lawS3852CExactCard

/-- THE TOLD AND TIED CARD OF 'antecede.LawS3852CRoundTrip'. -/
def lawS3852CRoundTripCard : Claim7 := { stood := { row := lawS3852CRoundTripRow, standIns := [], harness := (true, "f36eb4c6c8e2ad79b1b1cca4e71673388a5c72ca3aad3a993a1d25c32ab26659"), looks := true }, told := true, laidByText := true, laidKinds := [.sentinel, .sentinel], laidTests := true, laidLooks := .later, goes := false }
def LawS3852CRoundTripToldSaid : Prop := Claim7.holds Ybaf.pinned (.plain (OpenSpec.ofChange lawS3852CRoundTripSpec)) lawS3852CRoundTripCard
/-- ITS FALSE NEIGHBOUR. Refute it at one input. -/
def LawS3852CRoundTripToldWrongFalsely : Prop := Claim7.holds Ybaf.pinned (.plain (OpenSpec.ofChange lawS3852CRoundTripWrong)) lawS3852CRoundTripCard
end Rows
end Go.Proofs.YbulkcateFmt
