/-
  FOR 'LawS3853BZeroes': what the steps do to the call's own memory: no walk here.
-/
import Derived.Test.YbulkcatsRows
import Derived.WalkKit
import Derived.ProofKit
import Derived.Deep.OwnRows
import Derived.Laws.IdiomCopy
import Derived.Laws.CopyOwn
import Derived.Lib.SliceRun
namespace Go.Proofs.Ybulkcats
open Go.ChangeShapes Go.WideShapes Go.ChangeAt Go.RowKit Go.Deep

theorem hid {p : Prop} (h : p) : Hid p := h
theorem Yba.info5b : (Yba.prog.info? 5).map (fun i => (i.zero, i.size, i.bytes)) = some (some (.int .u8 0), 1, 1) := by kernel_rfl
theorem Yba.info23 : (Yba.prog.info? 23).map (fun i => (i.zero, i.size, i.bytes)) = some (some (.slice none 0 0), 1, 24) := by kernel_rfl
theorem Yba.size5 : (Yba.prog.info? 5).map (·.size) = some 1 := by kernel_rfl
theorem add_block (a : Addr) (n : Nat) : (a.add n).block = a.block := by unfold Addr.add; split <;> rfl

theorem heap_setCells_ne (b : Nat) : ∀ (vs : List Value) (o : Nat) (w : World) (k : Nat), k ≠ b → (w.setCells b o vs).heap[k]? = w.heap[k]?
  | [], _, _, _, _ => rfl
  | v :: vs, o, w, k, h => by
    show ((w.setCell ⟨b, o, none⟩ v).setCells b (o + 1) vs).heap[k]? = _
    rw [heap_setCells_ne b vs (o + 1) _ k h, Below.heap_setCell _ _ _ _ h]

theorem below_setCells {B b : Nat} (hb : B ≤ b) : ∀ (vs : List Value) (o : Nat) {a w : World}, Below B a w → Below B a (w.setCells b o vs)
  | [], _, _, _, h => h
  | v :: vs, o, _, w, h => by
    show Below _ _ ((w.setCell ⟨b, o, none⟩ v).setCells b (o + 1) vs)
    exact below_setCells hb vs (o + 1) (h.setCell (p := ⟨b, o, none⟩) hb v)

theorem rowIs_setCells (b t n : Nat) : ∀ (vs : List Value) (o : Nat) (w : World) (f : Nat → Value), w.rowIs b t n f →
    (w.setCells b o vs).rowIs b t n (fun j => if o ≤ j ∧ j < o + vs.length then vs.getD (j - o) (.bool false) else f j)
  | [], o, w, f, h => h.congr fun j _ => by rw [if_neg (by simp)]
  | v :: vs, o, w, f, h => by
    have := rowIs_setCells b t n vs (o + 1) _ _ (h.set o v)
    refine World.rowIs.congr this fun j _ => ?_
    simp only [List.length_cons]
    by_cases h1 : j = o
    · subst h1
      rw [if_neg (by omega), if_pos rfl, if_pos (by omega)]
      simp
    · by_cases h2 : o + 1 ≤ j ∧ j < o + 1 + vs.length
      · rw [if_pos h2, if_pos (by omega)]
        obtain ⟨d, rfl⟩ : ∃ d, j = o + 1 + d := ⟨j - (o + 1), by omega⟩
        rw [show o + 1 + d - (o + 1) = d by omega, show o + 1 + d - o = d + 1 by omega]
        simp
      · rw [if_neg h2, if_neg h1, if_neg (by omega)]

theorem rowIs_ne {w : World} {b b' t t' n n' : Nat} {f f' : Nat → Value} (h : w.rowIs b t n f) (h' : w.rowIs b' t' n' f') (ht : t ≠ t') : b ≠ b' := by
  rintro rfl
  obtain ⟨c, hc, _⟩ := h
  obtain ⟨c', hc', _⟩ := h'
  rw [hc] at hc'
  simp at hc'
  exact ht hc'.2

/-! ### The KEKs that came in -/
structure Kek (w : World) (a0 : Option Addr) (n : Nat) (A : Nat → Option Addr) (L C : Nat → Nat) (Z : Nat → List Int) : Prop where
  nil : a0 = none → n = 0
  row : ∀ i, i < n → ∃ x, a0 = some x ∧ w.cell? (x.add i) = some (.slice (A i) (L i) (C i))
  inner : ∀ i, i < n → A i = none → L i = 0
  len : ∀ i, i < n → (Z i).length = L i
  cells : ∀ i, i < n → ∀ ad, A i = some ad → ∀ j u, ((Z i).map (Value.int .u8))[j]? = some u → w.cell? (ad.add j) = some u

theorem Kek.on {w w' : World} {a0 : Option Addr} {n : Nat} {A : Nat → Option Addr} {L C : Nat → Nat} {Z : Nat → List Int} (h : Kek w a0 n A L C Z) (hb : Below w.heap.size w w') : Kek w' a0 n A L C Z :=
  ⟨h.nil, fun i hi => by
    obtain ⟨x, hx, hc⟩ := h.row i hi
    exact ⟨x, hx, by rw [hb.cell (World.block_lt_of_cell? _ _ hc)]; exact hc⟩, h.inner, h.len, fun i hi ad ha j u hu => by
    have hc := h.cells i hi ad ha j u hu
    rw [hb.cell (World.block_lt_of_cell? _ _ hc)]; exact hc⟩

/-! ### The deep copy -/
/-- Cell i of the copied list when k of them are laid. -/
def ownV (A : Nat → Option Addr) (L g : Nat → Nat) (k i : Nat) : Value := if i < k ∧ (A i).isSome = true then .slice (some ⟨g i, 0, none⟩) (L i) (L i) else .slice none 0 0

structure OwnInv (w wr : World) (n : Nat) (A : Nat → Option Addr) (L g : Nat → Nat) (k : Nat) : Prop where
  below : Below w.heap.size w wr
  row : wr.rowIs w.heap.size 23 n (ownV A L g k)
  blk : ∀ i, i < k → (A i).isSome = true → (∃ f, wr.rowIs (g i) 5 (L i) f) ∧ w.heap.size < g i

theorem own_start (w : World) (n : Nat) (A : Nat → Option Addr) (L g : Nat → Nat) : OwnInv w (w.alloc (.cells (madeCells #[.slice none 0 0] n) 23)) n A L g 0 :=
  ⟨(Below.refl _ _).alloc (Nat.le_refl _) _, (World.rowIs_made w (.slice none 0 0) n 23).congr fun i _ => by simp [ownV], fun i hi => by omega⟩

theorem own_skip {w wr : World} {n : Nat} {A : Nat → Option Addr} {L g : Nat → Nat} {k : Nat} (h : OwnInv w wr n A L g k) (hA : A k = none) : OwnInv w wr n A L g (k + 1) := by
  refine ⟨h.below, h.row.congr fun i _ => ?_, fun i hi hs => ?_⟩
  · unfold ownV
    by_cases e : i = k
    · subst e; simp [hA]
    · by_cases e2 : i < k
      · simp [e2, show i < k + 1 by omega]
      · rw [if_neg (fun hh => e2 hh.1), if_neg (fun hh => by have := hh.1; omega)]
  · by_cases e : i = k
    · subst e; rw [hA] at hs; cases hs
    · exact h.blk i (by omega) hs

/-- 'c := make(..); copy(c, keks[k])', as the run of the copy. -/
theorem copy_kek {w : World} {a0 : Option Addr} {n : Nat} {A : Nat → Option Addr} {L C : Nat → Nat} {Z : Nat → List Int} (h : Kek w a0 n A L C Z) {k : Nat} (hk : k < n) (ad : Addr) (hA : A k = some ad) (wr : World) (hb : Below w.heap.size w wr) :
    ∃ w2, (Builtin.copy_ #[23, 23] 3 #[.slice (some ⟨wr.heap.size, 0, none⟩) (L k) (L k), .slice (some ad) (L k) (C k)]).run Yba.prog (wr.alloc (.cells (madeCells #[.int .u8 0] (L k)) 5)) = .ok (goInt (L k)) w2 ∧
      (∃ f, w2.rowIs wr.heap.size 5 (L k) f) ∧ Below wr.heap.size wr w2 := by
  have hz := hb.size
  have hl : ((Z k).map (Value.int .u8)).length = L k := by rw [List.length_map, h.len k hk]
  have hb1 : Below wr.heap.size wr (wr.alloc (.cells (madeCells #[.int .u8 0] (L k)) 5)) := (Below.refl _ _).alloc (Nat.le_refl _) _
  have hK := (h.on hb).on hb1
  have hsz : (madeCells #[Value.int .u8 0] (L k)).size = L k := size_madeCells _ _
  have hone : ∀ v ∈ (Z k).map (Value.int .u8), v.oneCell' = true := fun u hu => by
    obtain ⟨_, _, rfl⟩ := List.mem_map.1 hu
    rfl
  have hr := run_copy_row (P := Yba.prog) (wr.alloc (.cells (madeCells #[.int .u8 0] (L k)) 5)) 23 23 3 5 wr.heap.size 0 (L k) (L k) ad (L k) (C k) (madeCells #[.int .u8 0] (L k)) 5 ((Z k).map (Value.int .u8)) Yba.underlying23 Yba.size5
    (heap_alloc_new wr _) (by rw [hl]; exact (Nat.min_self _).symm) (hK.cells k hk ad hA) (by rw [hsz, hl]; omega) hone
  rw [hl] at hr
  refine ⟨_, hr, ⟨fun j => (((madeCells #[Value.int .u8 0] (L k)).toList.take 0 ++ (Z k).map (Value.int .u8) ++ (madeCells #[Value.int .u8 0] (L k)).toList.drop (0 + L k)).toArray).getD j (.bool false), ?_⟩, below_setRow hb1 (Nat.le_refl _) _⟩
  have hs := setRow_heap (wr.alloc (.cells (madeCells #[.int .u8 0] (L k)) 5)) wr.heap.size _ ((madeCells #[.int .u8 0] (L k)).toList.take 0 ++ (Z k).map (Value.int .u8) ++ (madeCells #[.int .u8 0] (L k)).toList.drop (0 + L k)).toArray 5 (0, 0) (heap_alloc_new wr _)
  have hdr : (madeCells #[Value.int .u8 0] (L k)).toList.drop (0 + L k) = [] := List.drop_eq_nil_of_le (by rw [Array.length_toList, hsz]; omega)
  refine ⟨_, hs, ?_, fun i hi => ?_⟩
  · rw [hdr]; simp [h.len k hk]
  · rw [hdr]
    have hi' : i < (Z k).length := by rw [h.len k hk]; exact hi
    simp [hi']

/-- One KEK more. -/
theorem own_next {w wr w2 : World} {n : Nat} {A : Nat → Option Addr} {L g : Nat → Nat} {k : Nat} (h : OwnInv w wr n A L g k) (hk : k < n) (hA : (A k).isSome = true) (hrow : ∃ f, w2.rowIs wr.heap.size 5 (L k) f) (hb : Below wr.heap.size wr w2) :
    OwnInv w (w2.setCell ⟨w.heap.size, k, none⟩ (.slice (some ⟨wr.heap.size, 0, none⟩) (L k) (L k))) n A L (fun i => if i = k then wr.heap.size else g i) (k + 1) := by
  have hz := h.below.size
  have hlt := h.row.lt
  obtain ⟨f0, hf0⟩ := hrow
  have keep : ∀ b, b ≠ w.heap.size → (w2.setCell ⟨w.heap.size, k, none⟩ (.slice (some ⟨wr.heap.size, 0, none⟩) (L k) (L k))).heap[b]? = w2.heap[b]? := fun b hne => Below.heap_setCell _ _ _ _ hne
  refine ⟨(h.below.trans (hb.mono hz)).setCell (Nat.le_refl _) _, ?_, fun i hi hs => ?_⟩
  · refine World.rowIs.congr ((h.row.of_block (hb.block _ hlt)).set k _) fun i _ => ?_
    unfold ownV
    by_cases e : i = k
    · subst e; simp [hA]
    · rw [if_neg e]
      by_cases e2 : i < k
      · simp [e2, show i < k + 1 by omega, e]
      · rw [if_neg (fun hh => e2 hh.1), if_neg (fun hh => by have := hh.1; omega)]
  · by_cases e : i = k
    · subst e
      simp only [if_true]
      exact ⟨⟨f0, hf0.of_block (keep _ (by omega))⟩, by omega⟩
    · simp only [if_neg e]
      obtain ⟨⟨f, hf⟩, hg⟩ := h.blk i (by omega) hs
      exact ⟨⟨f, (hf.of_block (hb.block _ hf.lt)).of_block (keep _ (by omega))⟩, hg⟩
end Go.Proofs.Ybulkcats
