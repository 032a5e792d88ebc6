/-
  No cell of these rows narrows 'for every input' (looked for: loops, veiled, ifaces, maps, wideKeys, modest, calm, conditions, laid).
  DERIVED. THE GIVEN ROWS OF THIS SEAT. 3 by the template 'for every input the law returns true; each argument reads behind the call as it read before'; 0 by the template 'total and deterministic' (their statements: YbulkcatsTotals.lean).
  GIVEN WITH THE SEED: the statements are not yours to turn. If you find one false, say at which input.
  Laid BY PROGRAM, IN A SANDBOX (cutbox-rows.mjs): the forced cells as the released guide's own fill.sh prints them over the translation 6b6c64ebf6283002… (all of the seat's roots in one cut). By AI agents, Wed Nov 11 2026. No macro, syntax, notation, axiom, sorry.
-/
import Derived.Test.YbulkcatsChecked
import GoSem.Claim
import GoSem.ClaimJoined
import GoSem.ClaimMapViews
import Derived.JoinedTies
import Derived.KernelRfl
namespace Go.Proofs.Ybulkcats
/- THE CELL 'sum', in the pinned program and in every row, IS THE sha256 OF THE DUMP (.gsa) THAT YbulkcatsProg.lean LOADS. Nothing in Lean hashes anything: it is a label: what it is worth is what the hold of that sum in a sandbox is worth. -/
noncomputable def Yba.pinned : Pinned := { name := "ybulkcats", sum := "6b6c64ebf6283002ae47d0480ff6ba656f9c19236631499dbd24fdabe6f33db8", checked := Yba.checked }
namespace Rows
def none {H : Type} : Left H := { results := [], args := [] }

/-- 'keyfold.LawS3853AExact': WHATEVER THE INPUT: true; the input reads as it did. -/
def lawS3853AExactSpec : ChangeSpec := { name := "lawS3853AExact", fn := fun _ => fun
  | [d] => { results := [.lit (.bool true)], args := [d] }
  | _ => none }
def lawS3853AExactRow : OpenClaim := { program := "ybulkcats", sum := "6b6c64ebf6283002ae47d0480ff6ba656f9c19236631499dbd24fdabe6f33db8", func := "example.com/keyfold/keyfold.LawS3853AExact", spec := "lawS3853AExact", named := ["encoding/binary.LittleEndian"], apart := false }
def LawS3853AExactSaid : Prop := lawS3853AExactRow.holds Yba.pinned (OpenSpec.ofChange lawS3853AExactSpec)

/-- ITS FALSE NEIGHBOUR: 'it returns false'. Refute it at one input. -/
def lawS3853AExactWrong : ChangeSpec := { name := "lawS3853AExact", fn := fun _ => fun
  | [d] => { results := [.lit (.bool false)], args := [d] }
  | _ => none }
def LawS3853AExactWrongFalsely : Prop := lawS3853AExactRow.holds Yba.pinned (OpenSpec.ofChange lawS3853AExactWrong)

/-- 'keyfold.LawS3853AFresh': WHATEVER THE INPUT: true; the input reads as it did. -/
def lawS3853AFreshSpec : ChangeSpec := { name := "lawS3853AFresh", fn := fun _ => fun
  | [d] => { results := [.lit (.bool true)], args := [d] }
  | _ => none }
def lawS3853AFreshRow : OpenClaim := { program := "ybulkcats", sum := "6b6c64ebf6283002ae47d0480ff6ba656f9c19236631499dbd24fdabe6f33db8", func := "example.com/keyfold/keyfold.LawS3853AFresh", spec := "lawS3853AFresh", named := ["encoding/binary.LittleEndian"], apart := false }
def LawS3853AFreshSaid : Prop := lawS3853AFreshRow.holds Yba.pinned (OpenSpec.ofChange lawS3853AFreshSpec)

/-- ITS FALSE NEIGHBOUR: 'it returns false'. Refute it at one input. -/
def lawS3853AFreshWrong : ChangeSpec := { name := "lawS3853AFresh", fn := fun _ => fun
  | [d] => { results := [.lit (.bool false)], args := [d] }
  | _ => none }
def LawS3853AFreshWrongFalsely : Prop := lawS3853AFreshRow.holds Yba.pinned (OpenSpec.ofChange lawS3853AFreshWrong)

/-- 'keyfold.LawS3853BZeroes': WHATEVER THE INPUT: true; the input reads as it did. -/
def lawS3853BZeroesSpec : ChangeSpec := { name := "lawS3853BZeroes", fn := fun _ => fun
  | [d1, d2, d3] => { results := [.lit (.bool true)], args := [d1, d2, d3] }
  | _ => none }
def lawS3853BZeroesRow : OpenClaim := { program := "ybulkcats", sum := "6b6c64ebf6283002ae47d0480ff6ba656f9c19236631499dbd24fdabe6f33db8", func := "example.com/keyfold/keyfold.LawS3853BZeroes", spec := "lawS3853BZeroes", apart := false }
def LawS3853BZeroesSaid : Prop := lawS3853BZeroesRow.holds Yba.pinned (OpenSpec.ofChange lawS3853BZeroesSpec)

/-- ITS FALSE NEIGHBOUR: 'it returns false'. Refute it at one input. -/
def lawS3853BZeroesWrong : ChangeSpec := { name := "lawS3853BZeroes", fn := fun _ => fun
  | [d1, d2, d3] => { results := [.lit (.bool false)], args := [d1, d2, d3] }
  | _ => none }
def LawS3853BZeroesWrongFalsely : Prop := lawS3853BZeroesRow.holds Yba.pinned (OpenSpec.ofChange lawS3853BZeroesWrong)

end Rows
end Go.Proofs.Ybulkcats
