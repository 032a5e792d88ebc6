/-
  WHAT BOTH TOLD CARDS SHARE: the closed facts on the program; one start that fits: the two sentinels as their initialisers lay them.
-/
import Derived.Test.YbulkcateFmtCards
import Derived.Test.YbulkcateFmtTie
import Derived.ProofKit
import Derived.Stop.JoinedAt
import Derived.Stop.Texts
import Derived.Stop.JoinedTold
import Derived.Stop.LaidErr
import Derived.SizedLaws
import Derived.LaidLaws
import Derived.OpenShut
import Derived.SevenTiedAt
namespace Go.Proofs.YbulkcateFmt
open Go.ChangeShapes Go.WideShapes Go.ChangeAt Go.RowKit Go.Kit
open Go.Extern.Stop Go.Stop Go.Extern

theorem Ybaf.own : ownKnob Ybaf.prog.godebug = none := by kernel_rfl
theorem Ybaf.laidOut : laidOutB Ybaf.pinned.checked.prog = true := by kernel_rfl
theorem Ybaf.stops : Ybaf.pinned.checked.prog.stops = ["fmt.errorf"] := by kernel_rfl
theorem Ybaf.stopKnobs : Ybaf.pinned.checked.prog.stopKnobs = [] := by kernel_rfl
theorem Ybaf.quiet (os : Os) : Stop.quiet Ybaf.pinned.checked.prog os := by
  intro k hk
  rw [Ybaf.stopKnobs] at hk
  cases hk
/-- The names, as the given rows spell them. -/
def nmN : String := Rows.lawS3852CRoundTripSpec.vars.getD 0 ""
def nmC : String := Rows.lawS3852CRoundTripSpec.vars.getD 1 ""
def starName : String := match (Rows.laid_example_com_antecede_antecede_errNegativeWall : DataW Unit) with
  | .iface n _ => n
  | _ => ""
theorem Ybaf.gN : Ybaf.prog.globalNamed nmN = some 0 := by kernel_rfl
theorem Ybaf.gC : Ybaf.prog.globalNamed nmC = some 1 := by kernel_rfl
theorem Ybaf.gNType : (Ybaf.prog.globals[0]?).map (·.type) = some 27 := by kernel_rfl
theorem Ybaf.gCType : (Ybaf.prog.globals[1]?).map (·.type) = some 27 := by kernel_rfl
theorem Ybaf.cells68 : Ybaf.prog.cellsOf 68 = 1 := by kernel_rfl
theorem Ybaf.cells9 : Ybaf.prog.cellsOf 9 = 1 := by kernel_rfl
theorem rows66 (q : String) (hq : q = starName) : ((List.range Ybaf.prog.types.size).all fun u => Ybaf.prog.typeName? 3 u != some q || u == 66) = true := by
  subst hq
  kernel_rfl
theorem Ybaf.row66 (u : TypeId) (h : Ybaf.prog.typeName? 3 u = some starName) : u = 66 := by
  refine typeName_ptr_named (P := Ybaf.prog) (nm := "errors.errorString") (rows66 _ (by decide)) (by kernel_rfl) (by decide) u ?_
  exact h.trans (congrArg some (by decide))

theorem var?_below {P : Program} {B g : Nat} {W W' : World} {n : String} {cs : Array Value} (h : Below B W W') (hg : P.globalNamed n = some g) (hgB : g < B) (hv : W.var? P n = some cs) : W'.var? P n = some cs := by
  unfold World.var? at hv ⊢
  simp only [hg, Option.bind_some] at hv ⊢
  rw [h.block g hgB]
  exact hv

/-! ### One start that fits -/
def negS : ByteArray := { data := #[110, 101, 103, 97, 116, 105, 118, 101, 32, 119, 97, 108, 108] }
def cutS : ByteArray := { data := #[98, 105, 110, 97, 114, 121, 32, 102, 111, 114, 109, 32, 99, 117, 116, 32, 115, 104, 111, 114, 116] }
def lowOf (P : Program) : Nat := (World.holding P default ⟨#[], #[], []⟩).heap.size
def laidWorldOf (P : Program) (os : Os) : World :=
  let w0 := World.holding P os ⟨#[.cells #[.string negS] 68, .cells #[.string cutS] 68], #[], []⟩
  { w0 with heap := (w0.heap.modify 0 fun
      | .cells _ t frozen => .cells #[.iface 66 (.pointer (some ⟨lowOf P, 0, none⟩))] t frozen
      | o => o).modify 1 fun
      | .cells _ t frozen => .cells #[.iface 66 (.pointer (some ⟨lowOf P + 1, 0, none⟩))] t frozen
      | o => o }
theorem laid_metRT (os : Os) (args : Array Value) : laidMet Ybaf.prog Rows.lawS3852CRoundTripRow.laid ((laidWorldOf Ybaf.prog os).forCall (fun _ _ => 0) ⟨#[], args, []⟩).memory :=
  laidMet_of_run (ps := [.cell 1 0, .cell (lowOf Ybaf.prog + 1) 0, .cell 0 0, .cell (lowOf Ybaf.prog) 0]) 8 (by kernel_rfl) (by kernel_rfl) (by kernel_rfl)
theorem laid_metEx (os : Os) (args : Array Value) : laidMet Ybaf.prog Rows.lawS3852CExactRow.laid ((laidWorldOf Ybaf.prog os).forCall (fun _ _ => 0) ⟨#[], args, []⟩).memory :=
  laidMet_of_run (ps := [.cell 0 0, .cell (lowOf Ybaf.prog) 0]) 8 (by kernel_rfl) (by kernel_rfl) (by kernel_rfl)
end Go.Proofs.YbulkcateFmt
