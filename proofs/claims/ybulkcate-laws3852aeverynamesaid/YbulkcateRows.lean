/-
  No cell of these rows narrows 'for every input' (looked for: loops, veiled, ifaces, maps, wideKeys, modest, calm, conditions, laid).
  DERIVED. THE GIVEN ROWS OF THIS SEAT. 3 by the template 'for every input the law returns true; each argument reads behind the call as it read before'; 0 by the template 'total and deterministic' (their statements: YbulkcateTotals.lean).
  GIVEN WITH THE SEED: the statements are not yours to turn. If you find one false, say at which input.
  Laid BY PROGRAM, IN A SANDBOX (cutbox-rows.mjs): the forced cells as the released guide's own fill.sh prints them over the translation 7fe11022c6de6cca… (all of the seat's roots in one cut). By AI agents, Wed Nov 11 2026. No macro, syntax, notation, axiom, sorry.
-/
import Derived.Test.YbulkcateChecked
import GoSem.Claim
import GoSem.ClaimJoined
import GoSem.ClaimMapViews
import Derived.JoinedTies
import Derived.KernelRfl
namespace Go.Proofs.Ybulkcate
/- THE CELL 'sum', in the pinned program and in every row, IS THE sha256 OF THE DUMP (.gsa) THAT YbulkcateProg.lean LOADS. Nothing in Lean hashes anything: it is a label: what it is worth is what the hold of that sum in a sandbox is worth. -/
noncomputable def Yba.pinned : Pinned := { name := "ybulkcate", sum := "7fe11022c6de6ccadd4017a42f35b459a963102e7fa8f184c840225af024e742", checked := Yba.checked }
namespace Rows
def none {H : Type} : Left H := { results := [], args := [] }

/-- 'causality.LawS3852AEveryName': WHATEVER THE INPUT: true; the input reads as it did. -/
def lawS3852AEveryNameSpec : ChangeSpec := { name := "lawS3852AEveryName", fn := fun _ => fun
  | [d] => { results := [.lit (.bool true)], args := [d] }
  | _ => none }
def lawS3852AEveryNameRow : OpenClaim := { program := "ybulkcate", sum := "7fe11022c6de6ccadd4017a42f35b459a963102e7fa8f184c840225af024e742", func := "example.com/antecede/antecede/internal/causality.LawS3852AEveryName", spec := "lawS3852AEveryName", apart := false }
def LawS3852AEveryNameSaid : Prop := lawS3852AEveryNameRow.holds Yba.pinned (OpenSpec.ofChange lawS3852AEveryNameSpec)

/-- ITS FALSE NEIGHBOUR: 'it returns false'. Refute it at one input. -/
def lawS3852AEveryNameWrong : ChangeSpec := { name := "lawS3852AEveryName", fn := fun _ => fun
  | [d] => { results := [.lit (.bool false)], args := [d] }
  | _ => none }
def LawS3852AEveryNameWrongFalsely : Prop := lawS3852AEveryNameRow.holds Yba.pinned (OpenSpec.ofChange lawS3852AEveryNameWrong)

/-- 'clockjson.LawS3852BModel': WHATEVER THE INPUT: true; the input reads as it did. -/
def lawS3852BModelSpec : ChangeSpec := { name := "lawS3852BModel", fn := fun _ => fun
  | [d1, d2] => { results := [.lit (.bool true)], args := [d1, d2] }
  | _ => none }
def lawS3852BModelRow : OpenClaim := { program := "ybulkcate", sum := "7fe11022c6de6ccadd4017a42f35b459a963102e7fa8f184c840225af024e742", func := "example.com/antecede/antecede/internal/clockjson.LawS3852BModel", spec := "lawS3852BModel", apart := false }
def LawS3852BModelSaid : Prop := lawS3852BModelRow.holds Yba.pinned (OpenSpec.ofChange lawS3852BModelSpec)

/-- ITS FALSE NEIGHBOUR: 'it returns false'. Refute it at one input. -/
def lawS3852BModelWrong : ChangeSpec := { name := "lawS3852BModel", fn := fun _ => fun
  | [d1, d2] => { results := [.lit (.bool false)], args := [d1, d2] }
  | _ => none }
def LawS3852BModelWrongFalsely : Prop := lawS3852BModelRow.holds Yba.pinned (OpenSpec.ofChange lawS3852BModelWrong)

/-- 'clockjson.LawS3852BBuilt': WHATEVER THE INPUT: true; the input reads as it did. -/
def lawS3852BBuiltSpec : ChangeSpec := { name := "lawS3852BBuilt", fn := fun _ => fun
  | [d1, d2] => { results := [.lit (.bool true)], args := [d1, d2] }
  | _ => none }
def lawS3852BBuiltRow : OpenClaim := { program := "ybulkcate", sum := "7fe11022c6de6ccadd4017a42f35b459a963102e7fa8f184c840225af024e742", func := "example.com/antecede/antecede/internal/clockjson.LawS3852BBuilt", spec := "lawS3852BBuilt", apart := false }
def LawS3852BBuiltSaid : Prop := lawS3852BBuiltRow.holds Yba.pinned (OpenSpec.ofChange lawS3852BBuiltSpec)

/-- ITS FALSE NEIGHBOUR: 'it returns false'. Refute it at one input. -/
def lawS3852BBuiltWrong : ChangeSpec := { name := "lawS3852BBuilt", fn := fun _ => fun
  | [d1, d2] => { results := [.lit (.bool false)], args := [d1, d2] }
  | _ => none }
def LawS3852BBuiltWrongFalsely : Prop := lawS3852BBuiltRow.holds Yba.pinned (OpenSpec.ofChange lawS3852BBuiltWrong)

end Rows
end Go.Proofs.Ybulkcate
