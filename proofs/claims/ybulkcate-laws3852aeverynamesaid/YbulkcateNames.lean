/-
  THE PLAIN PART of 'LawS3852AEveryName', and what each step of its second loop does to the call's own memory: no walk here.
-/
import Derived.Test.YbulkcateNameAt
import Derived.Deep.OwnRows
import Derived.Deep.AppendSrc
import Derived.Deep.AppendLies
import Derived.Laws.IdiomStrings
import Derived.Laws.IdiomCopy
namespace Go.Proofs.Ybulkcate
open Go.ChangeShapes Go.WideShapes Go.ChangeAt Go.RowKit Go.Deep

/-- Where name k begins: the sum of the lengths ahead of it. -/
def Pz (S : Nat → ByteArray) : Nat → Nat
  | 0 => 0
  | k + 1 => Pz S k + (S k).size
/-- The first k names, one behind the other. -/
def Cat (S : Nat → ByteArray) : Nat → List UInt8
  | 0 => []
  | k + 1 => Cat S k ++ (S k).data.toList

theorem Cat_length (S : Nat → ByteArray) : ∀ k, (Cat S k).length = Pz S k
  | 0 => rfl
  | k + 1 => by
    show (Cat S k ++ (S k).data.toList).length = Pz S k + (S k).size
    rw [List.length_append, Cat_length S k, Array.length_toList]
    rfl

theorem Pz_mono (S : Nat → ByteArray) {k m : Nat} (h : k ≤ m) : Pz S k ≤ Pz S m := by
  induction m with
  | zero => have : k = 0 := by omega
            subst this; exact Nat.le_refl _
  | succ m ih =>
    by_cases e : k = m + 1
    · subst e; exact Nat.le_refl _
    · exact Nat.le_trans (ih (by omega)) (Nat.le_add_right _ _)

theorem Cat_split (S : Nat → ByteArray) {k m : Nat} (h : k ≤ m) : ∃ r, Cat S m = Cat S k ++ r := by
  induction m with
  | zero => have : k = 0 := by omega
            subst this; exact ⟨[], by simp⟩
  | succ m ih =>
    by_cases e : k = m + 1
    · subst e; exact ⟨[], by simp⟩
    · obtain ⟨r, hr⟩ := ih (by omega)
      exact ⟨r ++ (S m).data.toList, by show Cat S m ++ _ = _; rw [hr, List.append_assoc]⟩

/-- Name k, cut out of the whole text. -/
theorem cut_name (S : Nat → ByteArray) {k n : Nat} (h : k < n) : (⟨(Cat S n).toArray⟩ : ByteArray).extract (Pz S k) (Pz S (k + 1)) = S k := by
  obtain ⟨r, hr⟩ := Cat_split S (show k + 1 ≤ n by omega)
  have e : Cat S n = Cat S k ++ ((S k).data.toList ++ r) := by rw [hr]; show (Cat S k ++ (S k).data.toList) ++ r = _; rw [List.append_assoc]
  apply ByteArray.ext
  rw [ByteArray.data_extract, e]
  apply Array.ext'
  show ((Cat S k ++ ((S k).data.toList ++ r)).toArray.extract (Pz S k) (Pz S k + (S k).size)).toList = (S k).data.toList
  rw [← Cat_length S k]
  have hs : (S k).size = (S k).data.toList.length := by rw [Array.length_toList]; rfl
  rw [hs]
  simp

theorem size_Cat (S : Nat → ByteArray) (n : Nat) : (⟨(Cat S n).toArray⟩ : ByteArray).size = Pz S n := by
  show (Cat S n).toArray.size = _
  rw [List.size_toArray, Cat_length]

/-! ### Several cells laid into a row -/
theorem heap_setCells_ne (b : Nat) : ∀ (vs : List Value) (o : Nat) (w : World) (k : Nat), k ≠ b → (w.setCells b o vs).heap[k]? = w.heap[k]?
  | [], _, _, _, _ => rfl
  | v :: vs, o, w, k, h => by
    show ((w.setCell ⟨b, o, none⟩ v).setCells b (o + 1) vs).heap[k]? = _
    rw [heap_setCells_ne b vs (o + 1) _ k h, Below.heap_setCell _ _ _ _ h]

theorem below_setCells {B b : Nat} (hb : B ≤ b) : ∀ (vs : List Value) (o : Nat) {a w : World}, Below B a w → Below B a (w.setCells b o vs)
  | [], _, _, _, h => h
  | v :: vs, o, _, w, h => by
    show Below _ _ ((w.setCell ⟨b, o, none⟩ v).setCells b (o + 1) vs)
    exact below_setCells hb vs (o + 1) (h.setCell (p := ⟨b, o, none⟩) hb v)

theorem rowIs_setCells (b t n : Nat) : ∀ (vs : List Value) (o : Nat) (w : World) (f : Nat → Value), w.rowIs b t n f →
    (w.setCells b o vs).rowIs b t n (fun j => if o ≤ j ∧ j < o + vs.length then vs.getD (j - o) (.bool false) else f j)
  | [], o, w, f, h => h.congr fun j _ => by rw [if_neg (by simp)]
  | v :: vs, o, w, f, h => by
    have := rowIs_setCells b t n vs (o + 1) _ _ (h.set o v)
    refine World.rowIs.congr this fun j _ => ?_
    simp only [List.length_cons]
    by_cases h1 : j = o
    · subst h1
      rw [if_neg (by omega), if_pos rfl, if_pos (by omega)]
      simp
    · by_cases h2 : o + 1 ≤ j ∧ j < o + 1 + vs.length
      · rw [if_pos h2, if_pos (by omega)]
        obtain ⟨d, rfl⟩ : ∃ d, j = o + 1 + d := ⟨j - (o + 1), by omega⟩
        rw [show o + 1 + d - (o + 1) = d by omega, show o + 1 + d - o = d + 1 by omega]
        simp
      · rw [if_neg h2, if_neg h1, if_neg (by omega)]

/-! ### What the second loop carries along -/
def byteV (l : List UInt8) (i : Nat) : Value := .int .u8 ((l.getD i 0).toNat : Int)
def numV (S : Nat → ByteArray) (k j i : Nat) : Value := .int .i64 ((if 4096 * j + i < k then Pz S (4096 * j + i + 1) else 0 : Nat) : Int)
def blkV (g : Nat → Nat) (j : Nat) : Value := .slice (some ⟨g j, 0, none⟩) 4096 4096

/-- kb names lie in the text, kn ends in the column; the column has nb blocks, the blocks g 0, g 1 .. -/
structure Inv (w0 : World) (S : Nat → ByteArray) (total kb kn nb : Nat) (v : Value) (g : Nat → Nat) (wr : World) : Prop where
  below : Below w0.heap.size w0 wr
  buf : wr.rowIs w0.heap.size 5 total (byteV (Cat S kb))
  col : wr.heap[w0.heap.size + 1]? = some (.cells #[v, .int .i64 0] 26 (0, 0))
  own : wr.ownsRow (w0.heap.size + 2) 27 1 v nb ((List.range nb).map (blkV g))
  blk : ∀ j, j < nb → wr.rowIs (g j) 3 4096 (numV S kn j)
  inj : ∀ i j, i < nb → j < nb → g i = g j → i = j
  ge : ∀ j, j < nb → w0.heap.size ≤ g j

theorem rowIs_ne {w : World} {b b' t t' n n' : Nat} {f f' : Nat → Value} (h : w.rowIs b t n f) (h' : w.rowIs b' t' n' f') (ht : t ≠ t') : b ≠ b' := by
  rintro rfl
  obtain ⟨c, hc, _⟩ := h
  obtain ⟨c', hc', _⟩ := h'
  rw [hc] at hc'
  simp at hc'
  exact ht hc'.2

theorem ownsRow_blk {w w' : World} {base e size n : Nat} {v : Value} {xs : List Value} (h : w.ownsRow base e size v n xs) (hb : ∀ g, v.ownBlock = some g → w'.heap[g]? = w.heap[g]?) : w'.ownsRow base e size v n xs := by
  obtain ⟨h1, h2⟩ := h
  refine ⟨h1, ?_⟩
  rcases h2 with h2 | ⟨g, cap, cur, hv, hg, hh, r⟩
  · exact .inl h2
  · exact .inr ⟨g, cap, cur, hv, hg, by rw [hb g (by rw [hv]; rfl)]; exact hh, r⟩

/-- The own block of a value that owns a row of type e is no block of another type. -/
theorem own_ne {w : World} {base e size n b t : Nat} {v : Value} {xs : List Value} {c : Array Value} {fr : Nat × Nat} (h : w.ownsRow base e size v n xs) (hb : w.heap[b]? = some (.cells c t fr)) (ht : e ≠ t) : v.ownBlock ≠ some b := by
  intro hv
  rcases h.2 with ⟨h2, _⟩ | ⟨g, cap, cur, hvv, hg, hh, r⟩
  · rw [h2] at hv; cases hv
  · rw [hvv] at hv
    simp [Value.ownBlock] at hv
    subst hv
    rw [hh] at hb
    simp at hb
    exact ht hb.2.1

/-- THE FIRST STATE: behind 'make([]byte, 0, total)' and the empty column. -/
theorem inv_start (w : World) (S : Nat → ByteArray) (total : Nat) :
    Inv w S total 0 0 0 (.slice none 0 0) (fun _ => 0) ((w.alloc (.cells (madeCells #[.int .u8 0] total) 5)).alloc (.cells #[.slice none 0 0, .int .i64 0] 26)) := by
  refine ⟨((Below.refl _ _).alloc (Nat.le_refl _) _).alloc (by simp) _, ?_, ?_, World.ownsRow_nil _ _ _ _, fun j hj => by omega, fun i j hi => by omega, fun j hj => by omega⟩
  · refine World.rowIs.alloc ?_ _
    exact (World.rowIs_made w (.int .u8 0) total 5).congr fun i _ => by simp [byteV, Cat]
  · have := heap_alloc_new (w.alloc (.cells (madeCells #[.int .u8 0] total) 5)) (.cells #[.slice none 0 0, .int .i64 0] 26)
    simpa using this

/-- A BLOCK MORE: behind 'c.blocks = append(c.blocks, make([]int, blockLen))', W2 the world ahead of the append. -/
theorem inv_grow {w0 : World} {S : Nat → ByteArray} {total k nb : Nat} {v : Value} {g : Nat → Nat} {wr W2 w1 : World} (h : Inv w0 S total k k nb v g wr) (hk : k = 4096 * nb)
    (hb : Below wr.heap.size wr W2) (hsz : wr.heap.size < W2.heap.size) (hnew : W2.rowIs wr.heap.size 3 4096 (fun _ => .int .i64 0)) {gg cap : Nat}
    (hown : w1.ownsRow (w0.heap.size + 2) 27 1 (.slice (some ⟨gg, 0, none⟩) (nb + 1) cap) (nb + 1) ((List.range nb).map (blkV g) ++ [.slice (some ⟨wr.heap.size, 0, none⟩) 4096 4096]))
    (hgrow : W2.grownBy w1 v.ownBlock) :
    Inv w0 S total k k (nb + 1) (.slice (some ⟨gg, 0, none⟩) (nb + 1) cap) (fun j => if j = nb then wr.heap.size else g j) (w1.setCell ⟨w0.heap.size + 1, 0, none⟩ (.slice (some ⟨gg, 0, none⟩) (nb + 1) cap)) := by
  have hz := h.below.size
  have hcl : w0.heap.size + 1 < wr.heap.size := (Array.getElem?_eq_some_iff.1 h.col).1
  have old : ∀ b, b < wr.heap.size → v.ownBlock ≠ some b → w1.heap[b]? = wr.heap[b]? := fun b hb1 hne =>
    (hgrow.block b (by omega) (fun e => hne e.symm)).trans (hb.block b hb1)
  have hvlt := h.own.lt
  have hvlt2 : v.ownBlock ≠ some wr.heap.size := fun e => by have := hvlt _ e; omega
  obtain ⟨cbuf, hcbuf, _⟩ := h.buf
  have hB : v.ownBlock ≠ some w0.heap.size := own_ne h.own hcbuf (by decide)
  have hC : v.ownBlock ≠ some (w0.heap.size + 1) := own_ne h.own h.col (by decide)
  have hcol1 : w1.heap[w0.heap.size + 1]? = some (.cells #[v, .int .i64 0] 26 (0, 0)) := (old _ hcl hC).trans h.col
  have hne1 : gg ≠ w0.heap.size + 1 := fun e => own_ne hown hcol1 (by decide) (by rw [e]; rfl)
  have keep : ∀ b, b ≠ w0.heap.size + 1 → (w1.setCell ⟨w0.heap.size + 1, 0, none⟩ (.slice (some ⟨gg, 0, none⟩) (nb + 1) cap)).heap[b]? = w1.heap[b]? := fun b hne => Below.heap_setCell _ _ _ _ hne
  have gold : ∀ j, j < nb → g j < wr.heap.size := fun j hj => (h.blk j hj).lt
  refine ⟨?_, ?_, ?_, ?_, ?_, ?_, ?_⟩
  · refine Below.setCell ?_ (by show _ ≤ w0.heap.size + 1; omega) _
    refine (h.below.trans (hb.mono hz)).grown hgrow (by omega) (fun k hk => ?_)
    have := hvlt k hk
    omega
  · refine h.buf.of_block ?_
    rw [keep _ (by omega), old _ (by omega) hB]
  · simp [World.setCell, Array.getElem?_modify, hcol1]
  · have e : (List.range (nb + 1)).map (blkV fun j => if j = nb then wr.heap.size else g j) = (List.range nb).map (blkV g) ++ [.slice (some ⟨wr.heap.size, 0, none⟩) 4096 4096] := by
      rw [List.range_succ, List.map_append]
      congr 1
      · apply List.map_congr_left
        intro j hj
        have : j < nb := by simpa using hj
        simp [blkV, show j ≠ nb by omega]
      · simp [blkV]
    rw [e]
    exact ownsRow_blk hown fun q hq => by
      have hq' : gg = q := by simpa [Value.ownBlock] using hq
      exact keep q (by rw [← hq']; exact hne1)
  · intro j hj
    by_cases e : j = nb
    · subst e
      show World.rowIs _ (if j = j then wr.heap.size else g j) _ _ _
      rw [if_pos rfl]
      have h1 : w1.rowIs wr.heap.size 3 4096 (fun _ => .int .i64 0) := hnew.of_block (hgrow.block _ hsz (fun e => hvlt2 e.symm))
      have h2 : (w1.setCell ⟨w0.heap.size + 1, 0, none⟩ (.slice (some ⟨gg, 0, none⟩) (j + 1) cap)).rowIs wr.heap.size 3 4096 (fun _ => .int .i64 0) := h1.of_block (keep _ (by omega))
      refine h2.congr fun i _ => ?_
      simp only [numV]
      rw [if_neg (by omega)]
      rfl
    · show World.rowIs _ (if j = nb then wr.heap.size else g j) _ _ _
      rw [if_neg e]
      have hj' : j < nb := by omega
      obtain ⟨cj, hcj, hrest⟩ := h.blk j hj'
      have hne : g j ≠ w0.heap.size + 1 := fun e => by rw [e, h.col] at hcj; simp at hcj
      refine (h.blk j hj').of_block ?_
      rw [keep _ hne, old _ (gold j hj') (own_ne h.own hcj (by decide))]
  · intro i j hi hj e
    have e : (if i = nb then wr.heap.size else g i) = (if j = nb then wr.heap.size else g j) := e
    by_cases ei : i = nb <;> by_cases ej : j = nb
    · omega
    · rw [if_pos ei, if_neg ej] at e
      have := gold j (by omega)
      omega
    · rw [if_neg ei, if_pos ej] at e
      have := gold i (by omega)
      omega
    · rw [if_neg ei, if_neg ej] at e
      exact h.inj i j (by omega) (by omega) e
  · intro j hj
    show w0.heap.size ≤ (if j = nb then wr.heap.size else g j)
    by_cases e : j = nb
    · rw [if_pos e]; exact hz
    · rw [if_neg e]; exact h.ge j (by omega)

/-- Name k's bytes laid behind the others: there is room. -/
theorem inv_bytes {w0 : World} {S : Nat → ByteArray} {total k nb : Nat} {v : Value} {g : Nat → Nat} {wr : World} (h : Inv w0 S total k k nb v g wr) (hroom : Pz S (k + 1) ≤ total) :
    ∃ w2, (Builtin.append_ #[23, 9] 23 #[.slice (some ⟨w0.heap.size, 0, none⟩) (Pz S k) total, .string (S k)]).run Yba.prog wr = .ok (.slice (some ⟨w0.heap.size, 0, none⟩) (Pz S (k + 1)) total) w2 ∧ Inv w0 S total (k + 1) k nb v g w2 := by
  have hi5 : (Yba.prog.info? 5).map (fun i => (i.zero, i.size, i.bytes)) = some (some (.int .u8 0), 1, 1) := by kernel_rfl
  obtain ⟨i, hi, hz0, hz1, hz2⟩ := info_parts hi5
  have e1 : Pz S (k + 1) = Pz S k + (S k).size := rfl
  have hl := byteCells_length (S k)
  have hr := run_append_room_src (P := Yba.prog) wr 23 9 23 5 i Yba.underlying23 hi w0.heap.size 0 (Pz S k) total (.string (S k)) (S k).size (byteCells (S k))
    (by rw [hz1]; exact Src.ofString wr Yba.underlying9 (S k)) (by omega)
    (fun j hj => by rw [hz1, h.buf.cell (i := 0 + Pz S k * 1 + j) (by omega)]; rfl) (fun j hj => h.buf.frozen _)
  rw [hz1, Nat.mul_one, Nat.zero_add] at hr
  refine ⟨_, hr, ?_⟩
  have hz := h.below.size
  have other : ∀ b, b ≠ w0.heap.size → (wr.setCells w0.heap.size (Pz S k) (byteCells (S k))).heap[b]? = wr.heap[b]? := fun b hb => heap_setCells_ne _ _ _ _ _ hb
  obtain ⟨cbuf, hcbuf, hbs⟩ := h.buf
  refine ⟨below_setCells (Nat.le_refl _) _ _ h.below, ?_, ?_, ?_, ?_, h.inj, h.ge⟩
  · refine (rowIs_setCells _ _ _ (byteCells (S k)) (Pz S k) wr _ h.buf).congr fun q hq => ?_
    have hc : (Cat S k).length = Pz S k := Cat_length S k
    have hsl : (S k).data.toList.length = (S k).size := by rw [Array.length_toList]; rfl
    rw [hl]
    show _ = Value.int .u8 (((Cat S k ++ (S k).data.toList).getD q 0).toNat : Int)
    by_cases h1 : Pz S k ≤ q ∧ q < Pz S k + (S k).size
    · rw [if_pos h1]
      have hq2 : q - Pz S k < (S k).data.toList.length := by omega
      rw [List.getD_eq_getElem?_getD (l := Cat S k ++ (S k).data.toList), List.getElem?_append_right (by omega), hc]
      simp only [byteCells, List.getD_eq_getElem?_getD, List.getElem?_map, List.getElem?_eq_getElem hq2, Option.map_some, Option.getD_some]
    · rw [if_neg h1]
      unfold byteV
      by_cases h2 : q < Pz S k
      · rw [List.getD_eq_getElem?_getD, List.getD_eq_getElem?_getD, List.getElem?_append_left (by omega)]
      · rw [List.getD_eq_getElem?_getD, List.getD_eq_getElem?_getD, List.getElem?_eq_none (by omega), List.getElem?_eq_none (by rw [List.length_append]; omega)]
  · rw [other _ (by omega)]
    exact h.col
  · exact ownsRow_blk h.own fun q hq => other q (by have := h.own.lt q hq; omega)
  · intro j hj
    refine (h.blk j hj).of_block (other _ ?_)
    exact rowIs_ne (h.blk j hj) h.buf (by decide)

/-- End k put into the column. -/
theorem inv_end {w0 : World} {S : Nat → ByteArray} {total k nb : Nat} {v : Value} {g : Nat → Nat} {wr : World} (h : Inv w0 S total (k + 1) k nb v g wr) (hk : k / 4096 < nb) :
    Inv w0 S total (k + 1) (k + 1) nb v g (wr.setCell ⟨g (k / 4096), k % 4096, none⟩ (.int .i64 (Pz S (k + 1) : Nat))) := by
  have hb := h.blk _ hk
  obtain ⟨cj, hcj, _⟩ := hb
  have keep : ∀ b, b ≠ g (k / 4096) → (wr.setCell ⟨g (k / 4096), k % 4096, none⟩ (.int .i64 (Pz S (k + 1) : Nat))).heap[b]? = wr.heap[b]? := fun b hne => Below.heap_setCell _ _ _ _ hne
  have nB : g (k / 4096) ≠ w0.heap.size := rowIs_ne (h.blk _ hk) h.buf (by decide)
  have nC : g (k / 4096) ≠ w0.heap.size + 1 := fun e => by rw [e, h.col] at hcj; simp at hcj
  have hge : w0.heap.size ≤ g (k / 4096) := h.ge _ hk
  refine ⟨h.below.setCell hge _, h.buf.of_block (keep _ (Ne.symm nB)), by rw [keep _ (Ne.symm nC)]; exact h.col, ?_, ?_, h.inj, h.ge⟩
  · exact ownsRow_blk h.own fun q hq => keep q fun e => by subst e; exact own_ne h.own hcj (by decide) hq
  · intro j hj
    by_cases e : j = k / 4096
    · subst e
      refine ((h.blk _ hj).set (k % 4096) _).congr fun i hi => ?_
      simp only [numV]
      by_cases e2 : i = k % 4096
      · rw [if_pos e2, if_pos (by omega), show 4096 * (k / 4096) + i + 1 = k + 1 by omega]
      · rw [if_neg e2]
        by_cases e3 : 4096 * (k / 4096) + i < k
        · rw [if_pos e3, if_pos (by omega)]
        · rw [if_neg e3, if_neg (by omega)]
    · have hne : g j ≠ g (k / 4096) := fun q => e (h.inj j _ hj hk q)
      refine ((h.blk _ hj).of_block (keep _ hne)).congr fun i hi => ?_
      simp only [numV]
      by_cases e3 : 4096 * j + i < k
      · rw [if_pos e3, if_pos (by omega)]
      · rw [if_neg e3, if_neg (by omega)]

/-! ### What the walk reads off -/
theorem Inv.cell0 {w0 : World} {S : Nat → ByteArray} {total kb kn nb : Nat} {v : Value} {g : Nat → Nat} {wr : World} (h : Inv w0 S total kb kn nb v g wr) : wr.cell? ⟨w0.heap.size + 1, 0, none⟩ = some v := by
  simp [World.cell?, h.col]
theorem Inv.free0 {w0 : World} {S : Nat → ByteArray} {total kb kn nb : Nat} {v : Value} {g : Nat → Nat} {wr : World} (h : Inv w0 S total kb kn nb v g wr) (o : Nat) : wr.frozen? ⟨w0.heap.size + 1, o, none⟩ = false := by
  simp [World.frozen?, h.col]
theorem Inv.cell1 {w0 : World} {S : Nat → ByteArray} {total kb kn nb : Nat} {v : Value} {g : Nat → Nat} {wr : World} (h : Inv w0 S total kb kn nb v g wr) : wr.cell? ⟨w0.heap.size + 1, 1, none⟩ = some (.int .i64 0) := by
  simp [World.cell?, h.col]
/-- The column's value, where it has a block: its row, and what lies there. -/
theorem Inv.form {w0 : World} {S : Nat → ByteArray} {total kb kn nb : Nat} {v : Value} {g : Nat → Nat} {wr : World} (h : Inv w0 S total kb kn nb v g wr) (hn : 0 < nb) :
    ∃ gg cap, v = .slice (some ⟨gg, 0, none⟩) nb cap ∧ ∀ j, j < nb → wr.cell? ⟨gg, j, none⟩ = some (.slice (some ⟨g j, 0, none⟩) 4096 4096) := by
  obtain ⟨gg, cap, hv, _, _⟩ := h.own.form hn
  refine ⟨gg, cap, hv, fun j hj => ?_⟩
  have := h.own.cells (g := gg) (by rw [hv]; rfl) j (blkV g j) (by simp [hj])
  rw [show (⟨gg, 0, none⟩ : Addr).add j = ⟨gg, j, none⟩ by unfold Addr.add; split <;> simp_all] at this
  exact this

/-- AT THE END: the column reads as 'nameAt' wants it. -/
theorem Inv.done {w0 : World} {S : Nat → ByteArray} {total n nb : Nat} {v : Value} {g : Nat → Nat} {wr : World} (h : Inv w0 S total n n nb v g wr) (hn : n ≤ 4096 * nb) (hpos : 0 < n) (u : Value) :
    Col (wr.setCell ⟨w0.heap.size + 1, 1, none⟩ u) (w0.heap.size + 1) n (Pz S) := by
  obtain ⟨gg, cap, hv, hc⟩ := h.form (by omega)
  have keep : ∀ b, b ≠ w0.heap.size + 1 → (wr.setCell ⟨w0.heap.size + 1, 1, none⟩ u).heap[b]? = wr.heap[b]? := fun b hne => Below.heap_setCell _ _ _ _ hne
  have ngg : gg ≠ w0.heap.size + 1 := fun e => own_ne h.own h.col (by decide) (by rw [hv, e]; rfl)
  refine ⟨gg, nb, cap, ?_, fun i hi => ⟨by omega, g (i / 4096), ?_, ?_⟩⟩
  · rw [← hv]
    simp [World.setCell, World.cell?, Array.getElem?_modify, h.col]
  · rw [World.cell?_of_block (w := wr) (keep _ ngg)]
    exact hc _ (by omega)
  · have hb := h.blk (i / 4096) (by omega)
    obtain ⟨cj, hcj, _⟩ := hb
    have nC : g (i / 4096) ≠ w0.heap.size + 1 := fun e => by rw [e, h.col] at hcj; simp at hcj
    rw [World.cell?_of_block (w := wr) (keep _ nC), (h.blk (i / 4096) (by omega)).cell (by omega)]
    simp only [numV]
    rw [if_pos (by omega), show 4096 * (i / 4096) + i % 4096 + 1 = i + 1 by omega]

/-- The text, as a string. -/
theorem Inv.text {w0 : World} {S : Nat → ByteArray} {total n nb : Nat} {v : Value} {g : Nat → Nat} {wr : World} (h : Inv w0 S total n n nb v g wr) (ht : Pz S n = total) (u : Value) :
    (convert 23 9 (.slice (some ⟨w0.heap.size, 0, none⟩) total total)).run Yba.prog (wr.setCell ⟨w0.heap.size + 1, 1, none⟩ u) = .ok (.string ⟨(Cat S n).toArray⟩) (wr.setCell ⟨w0.heap.size + 1, 1, none⟩ u) := by
  have hl : (Cat S n).length = total := by rw [Cat_length, ht]
  have := run_convert_bytes_back (P := Yba.prog) (wr.setCell ⟨w0.heap.size + 1, 1, none⟩ u) 23 9 5 ⟨w0.heap.size, 0, none⟩ total (Cat S n) Yba.underlying23 Yba.underlying5 Yba.underlying9 (fun j hj => by
    rw [show (⟨w0.heap.size, 0, none⟩ : Addr).add j = ⟨w0.heap.size, j, none⟩ by unfold Addr.add; split <;> simp_all]
    rw [World.cell?_of_block (w := wr) (Below.heap_setCell _ _ _ _ (by show w0.heap.size ≠ w0.heap.size + 1; omega)), h.buf.cell (by omega)]
    simp [byteV, hj])
  rw [hl] at this
  exact this
end Go.Proofs.Ybulkcate
