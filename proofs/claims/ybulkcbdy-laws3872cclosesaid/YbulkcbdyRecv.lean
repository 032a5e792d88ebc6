/-
  A RECEIVE INSIDE A WALK OF ONE GOROUTINE. The walk's word for a piece of code ('Code.wp') speaks of the machine's own steps: so a region that holds a receive from a closed channel is walked here operation by operation ('OpsTo'), and all that lies around it by the kit's walk.
-/
import Derived.Test.YbulkcbdyLocks
import Derived.Conc.LoneCalls
namespace Go.Proofs.Ybulkcbdy
open Go.Conc Go.RowKit

theorem hid {p : Prop} (h : p) : Hid p := h

theorem heap_setChan_ne (w : World) {c b cap : Nat} {buf : Array Value} {cl : Bool} {s r : Nat} {tm : Bool} (h : b ≠ c) : (w.setChan c cap buf cl s r tm).heap[b]? = w.heap[b]? := by
  simp only [World.setChan]
  rw [Array.getElem?_setIfInBounds_ne (Ne.symm h)]

/-- From inside a region, with these operations still to do, the machine comes to an end of which Q holds. -/
def OpsTo (P : Program) (ops : Array Oper) (Q : Exit → Act → World → Prop) (l : List Nat) (a : Act) (w : World) : Prop :=
  ∀ (b : Frame) (k : List Item) (cs : List Frame), ∃ e a' w', Q e a' w' ∧ Arrives P (lone (b.at a (.inRegion ops l :: k)) cs w) b k cs e a' w'

def upon1 (o : Oper) (a : Act) (K : Act → World → Prop) : Result Next → Prop
  | .ok (.value v) w' => K (a.put o.dst v) w'
  | .ok .skip w' => K (a.put o.dst undef) w'
  | _ => False

section
variable {P : Program} {ops : Array Oper} {Q : Exit → Act → World → Prop} {a : Act} {w : World}

theorem wp_region_ops {id : Nat} (h : OpsTo P ops Q (List.range ops.size) a w) : (Code.region id ops false).wp P Q a w :=
  fun b k cs => let ⟨e, a', w', q, r⟩ := h b k cs; ⟨e, a', w', q, .of_steps (.one step_region) r⟩

theorem opsTo_nil (h : Q .normal a w) : OpsTo P ops Q [] a w := fun _ _ _ => ⟨.normal, a, w, h, .one step_region_end⟩

theorem opsTo_op {i : Nat} {rest : List Nat} {o : Oper} (ho : ops[i]? = some o) (hw : Region.wanted o (yielded ops a.tmps) = true)
    (h : ∀ K : Act → World → Prop, (∀ a w, OpsTo P ops Q rest a w → K a w) → upon1 o a K ((execOp a.eval o).run P w)) : OpsTo P ops Q (i :: rest) a w := by
  have h1 := h (OpsTo P ops Q rest) (fun _ _ h => h)
  intro b k cs
  have hg := stepG_op (P := P) (b := b) (k := k) (cs := cs) (w := w) (rest := rest) ho hw
  have hfin : ∀ v, (b.at a (.inRegion ops (i :: rest) :: k)).finish v = b.at (a.put o.dst v) (.inRegion ops rest :: k) := by
    intro v; rw [Frame.finish_at, ho]; rfl
  unfold upon1 at h1
  split at h1
  · rename_i v w' hr
    obtain ⟨e, a', w'', hq, harr⟩ := h1 b k cs
    refine ⟨e, a', w'', hq, .of_steps (.one (step_lone_go ?_)) harr⟩
    rw [hg, ← hfin]; simp [stepG.apply, hr]
  · rename_i w' hr
    obtain ⟨e, a', w'', hq, harr⟩ := h1 b k cs
    refine ⟨e, a', w'', hq, .of_steps (.one (step_lone_go ?_)) harr⟩
    rw [hg, ← hfin]; simp [stepG.apply, hr]
  · exact h1.elim

/-- A receive from a closed and empty channel. -/
theorem opsTo_recv_shut {i : Nat} {rest : List Nat} {o : Oper} (ho : ops[i]? = some o) (hw : Region.wanted o (yielded ops a.tmps) = true) (ok : Bool) {c cap s r : Nat} {z : Value} {tm : Bool}
    (hr : (execOp a.eval o).run P w = .ok (.comm #[rcase c z] true (.recv ok)) w) (hc : w.heap[c]? = some (.chan cap #[] true s r tm))
    (h : OpsTo P ops Q rest (a.put o.dst (got ok z false)) w) : OpsTo P ops Q (i :: rest) a w := by
  intro b k cs
  have hg := stepG_op (P := P) (b := b) (k := k) (cs := cs) (w := w) (rest := rest) ho hw
  have hfin : ∀ v, (b.at a (.inRegion ops (i :: rest) :: k)).finish v = b.at (a.put o.dst v) (.inRegion ops rest :: k) := by
    intro v; rw [Frame.finish_at, ho]; rfl
  obtain ⟨es, hes⟩ : ∃ es, stepG P true (G (b.at a (.inRegion ops (i :: rest) :: k)) cs) w = .comm (G (b.at a (.inRegion ops (i :: rest) :: k)) cs) #[rcase c z] true (.recv ok) w es := by
    have h2 : stepG P true (G (b.at a (.inRegion ops (i :: rest) :: k)) cs) w = stepG.apply P true (b.at a (.inRegion ops (i :: rest) :: k)) cs none (execOp a.eval o) w := hg
    rw [h2]
    simp only [stepG.apply, Sem.runT_eq, hr, GStep.after]
    exact ⟨_, rfl⟩
  have hst := step_lone_recv_shut ok hes hc
  obtain ⟨e, a', w'', hq, harr⟩ := h b k cs
  refine ⟨e, a', w'', hq, .of_steps (.one ?_) harr⟩
  rw [← hfin]
  exact hst
end
end Go.Proofs.Ybulkcbdy
