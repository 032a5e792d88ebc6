/-
  FOR 'LawS3872CClose': what the steps do to the call's own memory: no walk here.
-/
import Derived.Test.YbulkcbdyRecv
import Derived.WalkKit
import Derived.ProofKit
import Derived.Deep.OwnRows
import Derived.Laws.IdiomCopy
import Derived.Laws.CopyOwn
import Derived.Maps.Own
import Derived.Maps.OwnSet
import Derived.StringKeys
namespace Go.Proofs.Ybulkcbdy
open Go.ChangeShapes Go.WideShapes Go.ChangeAt Go.RowKit Go.Deep Go.Maps Go.ChangeMaps Go.MapKept Go.WideMaps

theorem Yba.info9 : (Yba.prog.info? 9).map (fun i => (i.zero, i.size, i.bytes)) = some (some (.string ByteArray.empty), 1, 16) := by kernel_rfl
theorem Yba.size9 : (Yba.prog.info? 9).map (·.size) = some 1 := by kernel_rfl
theorem zero4 (w : World) : (zeroValue 4).run Yba.prog w = .ok (.bool false) w := by kernel_rfl

/-- The names that came in. -/
structure Due (w : World) (a1 : Option Addr) (n : Nat) (S : Nat → ByteArray) : Prop where
  nil : a1 = none → n = 0
  row : ∀ i, i < n → ∃ x, a1 = some x ∧ w.cell? (x.add i) = some (.string (S i))
  size : ∀ i, i < n → (S i).size ≤ maxLen

theorem Due.on {w w' : World} {a1 : Option Addr} {n : Nat} {S : Nat → ByteArray} (h : Due w a1 n S) (hb : Below w.heap.size w w') : Due w' a1 n S :=
  ⟨h.nil, fun i hi => by
    obtain ⟨x, hx, hc⟩ := h.row i hi
    exact ⟨x, hx, by rw [hb.cell (World.block_lt_of_cell? _ _ hc)]; exact hc⟩, h.size⟩

/-- 'd := make(..); copy(d, due)', as the run of the copy. -/
theorem copy_due {w : World} {a1 : Option Addr} {n c1 : Nat} {S : Nat → ByteArray} (h : Due w a1 n S) :
    ∃ w2, (∀ ty, (Builtin.copy_ #[22, 22] ty #[.slice (some ⟨w.heap.size, 0, none⟩) n n, .slice a1 n c1]).run Yba.prog (w.alloc (.cells (madeCells #[.string ByteArray.empty] n) 9)) = .ok (goInt n) w2) ∧
      w2.rowIs w.heap.size 9 n (fun i => .string (S i)) ∧ Below w.heap.size w w2 := by
  have hb1 : Below w.heap.size w (w.alloc (.cells (madeCells #[.string ByteArray.empty] n) 9)) := (Below.refl _ _).alloc (Nat.le_refl _) _
  by_cases h0 : n = 0
  · subst h0
    refine ⟨w.alloc (.cells (madeCells #[.string ByteArray.empty] 0) 9), fun ty => ?_, (World.rowIs_made w (.string ByteArray.empty) 0 9).congr fun i hi => by omega, hb1⟩
    exact run_copy_none (P := Yba.prog) _ 22 22 ty 9 _ _ 0 0 0 c1 Yba.underlying22 Yba.size9 rfl
  · obtain ⟨x, rfl, _⟩ := h.row 0 (by omega)
    have hl : ((List.range n).map fun i => Value.string (S i)).length = n := by simp
    have hsz : (madeCells #[Value.string ByteArray.empty] n).size = n := size_madeCells _ _
    have hD := h.on hb1
    have hr := fun ty => run_copy_row (P := Yba.prog) (w.alloc (.cells (madeCells #[.string ByteArray.empty] n) 9)) 22 22 ty 9 w.heap.size 0 n n x n c1 (madeCells #[.string ByteArray.empty] n) 9 ((List.range n).map fun i => .string (S i)) Yba.underlying22 Yba.size9
      (heap_alloc_new w _) (by rw [hl]; exact (Nat.min_self _).symm) (fun j v hv => by
        obtain ⟨hj, he⟩ := List.getElem?_eq_some_iff.1 hv
        rw [hl] at hj
        obtain ⟨x', hx', hc⟩ := hD.row j hj
        cases hx'
        rw [hc, ← he]
        simp) (by rw [hsz, hl]; omega) (fun v hv => by
        obtain ⟨i, _, rfl⟩ := List.mem_map.1 hv
        rfl)
    simp only [hl] at hr
    refine ⟨_, hr, ?_, below_setRow hb1 (Nat.le_refl _) _⟩
    have hs := setRow_heap (w.alloc (.cells (madeCells #[.string ByteArray.empty] n) 9)) w.heap.size _ ((madeCells #[.string ByteArray.empty] n).toList.take 0 ++ ((List.range n).map fun i => Value.string (S i)) ++ (madeCells #[.string ByteArray.empty] n).toList.drop (0 + n)).toArray 9 (0, 0) (heap_alloc_new w _)
    have hdr : (madeCells #[Value.string ByteArray.empty] n).toList.drop (0 + n) = [] := List.drop_eq_nil_of_le (by rw [Array.length_toList, hsz]; omega)
    refine ⟨_, hs, ?_, fun i hi => ?_⟩
    · rw [hdr]; simp
    · rw [hdr]; simp [hi]

/-! ### The set of names -/
theorem key9 : Keyed Yba.prog 9 := string_keyed Yba.underlying9

/-- Block B is a map of at most m entries that answers true at each of the first k names. -/
def QMap (w : World) (B m : Nat) (S : Nat → ByteArray) (k : Nat) : Prop :=
  ∃ D : DataW Unit, w.ownsMap Yba.prog 9 (plainElem Yba.prog 4) B m D ∧ ∀ i, i < k → D.atKey (.string (S i).data.toList) (.lit (.bool false)) = .lit (.bool true)

theorem qmap_start (w : World) (S : Nat → ByteArray) : QMap (w.alloc (.map #[] 0)) w.heap.size 0 S 0 := ⟨_, World.ownsMap_made _ _ _ _, fun i hi => by omega⟩

theorem qmap_step {w : World} {B m : Nat} {S : Nat → ByteArray} {k : Nat} (h : QMap w B m S k) (hm : m < maxLen) (hs : (S k).size ≤ maxLen) :
    ∃ w', (Instr.mapUpdate 23 (.map (some B)) (.string (S k)) (.bool true)).run Yba.prog w = .ok () w' ∧ QMap w' B (m + 1) S (k + 1) ∧ w.grownBy w' (some B) := by
  obtain ⟨D, ho, hat⟩ := h
  obtain ⟨w', hr, ho', hg⟩ := ho.update key9 Yba.underlying23 hm (keyOf_string_mk Yba.underlying9 hs) (plainElem_bool Yba.underlying4 true)
  refine ⟨w', hr, ⟨_, ho', fun i hi => ?_⟩, hg⟩
  by_cases e : (S i).data.toList = (S k).data.toList
  · rw [e]
    exact atKey_put_same ho.isMap (by trivial) _ _
  · rw [atKey_put_other (fun hh => e (by injection hh))]
    exact hat i (by
      by_cases e2 : i = k
      · subst e2; exact absurd rfl e
      · omega)

theorem plainElem_bool_inv {v : Value} {z : DataW Unit × List MemPlace} (h : plainElem Yba.prog 4 v = some z) : ∃ b, v = .bool b ∧ z = (.lit (.bool b), []) := by
  simp only [plainElem, Yba.underlying4] at h
  split at h
  · rename_i x heq
    exact ⟨_, rfl, (Option.some.inj h).symm⟩
  · rename_i heq
    cases heq
  · rename_i heq
    cases heq
  · cases h

theorem qmap_look {w : World} {B m : Nat} {S : Nat → ByteArray} {k : Nat} (h : QMap w B m S k) {i : Nat} (hi : i < k) (hs : (S i).size ≤ maxLen) :
    (Instr.lookup 23 (.map (some B)) (.string (S i)) false).run Yba.prog w = .ok (.bool true) w := by
  obtain ⟨D, ho, hat⟩ := h
  obtain ⟨v, ps, hr, hv⟩ := ho.lookup key9 Yba.underlying23 (zero4 w) (plainElem_bool Yba.underlying4 false) (keyOf_string_mk Yba.underlying9 hs)
  rw [hat i hi] at hv
  obtain ⟨b, rfl, hz⟩ := plainElem_bool_inv hv
  cases hz
  exact hr

theorem qmap_on {w w' : World} {B m : Nat} {S : Nat → ByteArray} {k : Nat} (h : QMap w B m S k) (hb : w'.heap[B]? = w.heap[B]?) : QMap w' B m S k := by
  obtain ⟨D, ⟨es, cl, h1, h2⟩, hat⟩ := h
  exact ⟨D, ⟨es, cl, by rw [hb]; exact h1, h2⟩, hat⟩
end Go.Proofs.Ybulkcbdy
