/-
  NARROWER THAN 'FOR EVERY INPUT', by the rows' own cells (each row's printed sentence says how): LawS3852CExact: ifaces, laid · LawS3852CRoundTrip: ifaces, laid.
  DERIVED. THE GIVEN ROWS OF THIS SEAT. 2 by the template 'for every input the law returns true; each argument reads behind the call as it read before'; 0 by the template 'total and deterministic' (their statements: YbulkcateFmtTotals.lean).
  GIVEN WITH THE SEED: the statements are not yours to turn. If you find one false, say at which input.
  Laid BY PROGRAM, IN A SANDBOX (cutbox-rows.mjs): the forced cells as the released guide's own fill.sh prints them over the translation 6e6050a72860aba1… (all of the seat's roots in one cut). By AI agents, Wed Nov 11 2026. No macro, syntax, notation, axiom, sorry.
-/
import Derived.Test.YbulkcateFmtChecked
import GoSem.Claim
import GoSem.ClaimJoined
import GoSem.ClaimMapViews
import Derived.JoinedTies
import Derived.KernelRfl
namespace Go.Proofs.YbulkcateFmt
/- THE CELL 'sum', in the pinned program and in every row, IS THE sha256 OF THE DUMP (.gsa) THAT YbulkcateFmtProg.lean LOADS. Nothing in Lean hashes anything: it is a label: what it is worth is what the hold of that sum in a sandbox is worth. -/
noncomputable def Ybaf.pinned : Pinned := { name := "ybulkcatefmt", sum := "6e6050a72860aba1cdfe404af3ff63e23e25e4b6f5f037270013de2ceb326f20", checked := Ybaf.checked }
namespace Rows
def none {H : Type} : Left H := { results := [], args := [] }

/- WHAT THE LISTED PACKAGE-LEVEL VARIABLES READ AS WHEN THE CALL BEGINS. Each datum BY PROGRAM (the guide's laid-datum.mjs) off the statement by which the dump's own 'gosem.cut.vars' lays the variable. In a bare row this is a premise. The card (YbulkcateFmtCards.lean) ties it to the program's text. -/
def laid_example_com_antecede_antecede_errNegativeWall {H : Type} : DataW H := .iface "*errors.errorString" (.ptr (.agg [.lit (.string [110, 101, 103, 97, 116, 105, 118, 101, 32, 119, 97, 108, 108])]))
def laid_example_com_antecede_antecede_errCutShort {H : Type} : DataW H := .iface "*errors.errorString" (.ptr (.agg [.lit (.string [98, 105, 110, 97, 114, 121, 32, 102, 111, 114, 109, 32, 99, 117, 116, 32, 115, 104, 111, 114, 116])]))

/-- 'antecede.LawS3852CExact': WHATEVER THE INPUT: true; the input reads as it did. -/
def lawS3852CExactSpec : ChangeSpec := { name := "lawS3852CExact", vars := ["example.com/antecede/antecede.errNegativeWall"], fn := fun _ => fun
  | [d1, d2, d3, g1] => { results := [.lit (.bool true)], args := [d1, d2, d3], vars := [g1] }
  | _ => none }
def lawS3852CExactRow : OpenClaim := { program := "ybulkcatefmt", sum := "6e6050a72860aba1cdfe404af3ff63e23e25e4b6f5f037270013de2ceb326f20", func := "example.com/antecede/antecede.LawS3852CExact", spec := "lawS3852CExact", stops := ["fmt.errorf"], inPlace := ["fmt.errorf", "internal/reflectlite.TypeOf"], unfollowed := true, recurses := true, named := ["example.com/antecede/antecede.errNegativeWall"], ifaces := true, apart := false, laid := [("example.com/antecede/antecede.errNegativeWall", laid_example_com_antecede_antecede_errNegativeWall)] }
/-- NO THEOREM (fmt's text is open here; it may be false): for the released tool's asking of the row's closed facts alone. THE STATEMENT IS 'LawS3852CExactToldSaid' (YbulkcateFmtCards.lean). -/
def LawS3852CExactFormAsk : Prop := lawS3852CExactRow.holds Ybaf.pinned (OpenSpec.ofChange lawS3852CExactSpec)

/-- ITS FALSE NEIGHBOUR: 'it returns false'. Refute it at one input. -/
def lawS3852CExactWrong : ChangeSpec := { name := "lawS3852CExact", vars := ["example.com/antecede/antecede.errNegativeWall"], fn := fun _ => fun
  | [d1, d2, d3, g1] => { results := [.lit (.bool false)], args := [d1, d2, d3], vars := [g1] }
  | _ => none }
def LawS3852CExactWrongFormAsk : Prop := lawS3852CExactRow.holds Ybaf.pinned (OpenSpec.ofChange lawS3852CExactWrong)

/-- 'antecede.LawS3852CRoundTrip': WHATEVER THE INPUT: true; the input reads as it did. -/
def lawS3852CRoundTripSpec : ChangeSpec := { name := "lawS3852CRoundTrip", vars := ["example.com/antecede/antecede.errNegativeWall", "example.com/antecede/antecede.errCutShort"], fn := fun _ => fun
  | [d1, d2, g1, g2] => { results := [.lit (.bool true)], args := [d1, d2], vars := [g1, g2] }
  | _ => none }
def lawS3852CRoundTripRow : OpenClaim := { program := "ybulkcatefmt", sum := "6e6050a72860aba1cdfe404af3ff63e23e25e4b6f5f037270013de2ceb326f20", func := "example.com/antecede/antecede.LawS3852CRoundTrip", spec := "lawS3852CRoundTrip", stops := ["fmt.errorf"], inPlace := ["fmt.errorf"], named := ["example.com/antecede/antecede.errNegativeWall", "example.com/antecede/antecede.errCutShort"], ifaces := true, apart := false, laid := [("example.com/antecede/antecede.errCutShort", laid_example_com_antecede_antecede_errCutShort), ("example.com/antecede/antecede.errNegativeWall", laid_example_com_antecede_antecede_errNegativeWall)] }
/-- NO THEOREM (fmt's text is open here; it may be false): for the released tool's asking of the row's closed facts alone. THE STATEMENT IS 'LawS3852CRoundTripToldSaid' (YbulkcateFmtCards.lean). -/
def LawS3852CRoundTripFormAsk : Prop := lawS3852CRoundTripRow.holds Ybaf.pinned (OpenSpec.ofChange lawS3852CRoundTripSpec)

/-- ITS FALSE NEIGHBOUR: 'it returns false'. Refute it at one input. -/
def lawS3852CRoundTripWrong : ChangeSpec := { name := "lawS3852CRoundTrip", vars := ["example.com/antecede/antecede.errNegativeWall", "example.com/antecede/antecede.errCutShort"], fn := fun _ => fun
  | [d1, d2, g1, g2] => { results := [.lit (.bool false)], args := [d1, d2], vars := [g1, g2] }
  | _ => none }
def LawS3852CRoundTripWrongFormAsk : Prop := lawS3852CRoundTripRow.holds Ybaf.pinned (OpenSpec.ofChange lawS3852CRoundTripWrong)

end Rows
end Go.Proofs.YbulkcateFmt
