/-
  FOR 'LawS3853BZeroes': the keys being laid, and what is known when wipe has run: no walk here.
-/
import Derived.Test.YbulkcatsKeys
import Derived.Test.YbulkcatsWipe
namespace Go.Proofs.Ybulkcats
open Go.ChangeShapes Go.WideShapes Go.ChangeAt Go.RowKit Go.Deep

/-- The ids that came in: two bytes each. -/
def Ids (w : World) (a1 : Option Addr) (n1 : Nat) : Prop := ∀ i, i < n1 → ∃ x p q, a1 = some x ∧ w.cell? (x.add (i * 2)) = some (.int .u8 p) ∧ w.cell? ((x.add (i * 2)).add 1) = some (.int .u8 q)

theorem ids_on {w w' : World} {a1 : Option Addr} {n1 : Nat} (h : Ids w a1 n1) (hb : Below w.heap.size w w') : Ids w' a1 n1 := fun i hi => by
  obtain ⟨x, p, q, hx, h1, h2⟩ := h i hi
  exact ⟨x, p, q, hx, by rw [hb.cell (World.block_lt_of_cell? _ _ h1)]; exact h1, by rw [hb.cell (World.block_lt_of_cell? _ _ h2)]; exact h2⟩

/-- The list of own KEKs, after the deep copy. -/
structure OwnEnd (w wc : World) (a0 : Option Addr) (n : Nat) (A : Nat → Option Addr) (L g : Nat → Nat) (ao : Option Addr) : Prop where
  same : ao.isNone = a0.isNone
  row : 0 < n → ao = some ⟨w.heap.size, 0, none⟩ ∧ wc.rowIs w.heap.size 23 n (ownV A L g n)
  blk : ∀ i, i < n → (A i).isSome = true → (∃ f, wc.rowIs (g i) 5 (L i) f) ∧ w.heap.size < g i
  below : Below w.heap.size w wc

/-- The list of keys while it is being filled; wc: the world when it was made. -/
def KeyInv (wc wr : World) (n : Nat) : Prop := (∃ f, wr.rowIs wc.heap.size 37 (n * 6) f ∧ KeyLike f n) ∧ Below wc.heap.size wc wr

theorem key_start (w : World) (n : Nat) : KeyInv w (w.alloc (.cells (madeCells #[.int .u8 0, .int .u8 0, .int .u8 0, .int .u64 0, .int .i64 0, .pointer none] (n * 6)) 37)) n := by
  refine ⟨⟨fun j => (#[.int .u8 0, .int .u8 0, .int .u8 0, .int .u64 0, .int .i64 0, .pointer none] : Array Value)[j % 6]!, ⟨_, heap_alloc_new w _, size_madeCells _ _, fun j hj => ?_⟩, fun i _ => ⟨0, 0, 0, ?_⟩⟩, (Below.refl _ _).alloc (Nat.le_refl _) _⟩
  · simp [madeCells, hj]
  · dsimp only
    rw [show i * 6 % 6 = 0 by omega, show (i * 6 + 1) % 6 = 1 by omega, show (i * 6 + 2) % 6 = 2 by omega, show (i * 6 + 3) % 6 = 3 by omega, show (i * 6 + 4) % 6 = 4 by omega, show (i * 6 + 5) % 6 = 5 by omega]
    exact ⟨rfl, rfl, rfl, rfl, rfl, rfl⟩

theorem key_id {wc wr : World} {n : Nat} (h : KeyInv wc wr n) {k : Nat} (hk : k < n) (p q : Int) : KeyInv wc ((wr.setCell ⟨wc.heap.size, k * 6, none⟩ (.int .u8 p)).setCell ⟨wc.heap.size, k * 6 + 1, none⟩ (.int .u8 q)) n := by
  obtain ⟨⟨f, hr, hl⟩, hb⟩ := h
  refine ⟨⟨_, (hr.set (k * 6) (.int .u8 p)).set (k * 6 + 1) (.int .u8 q), fun i hi => ?_⟩, (hb.setCell (Nat.le_refl _) _).setCell (Nat.le_refl _) _⟩
  obtain ⟨a, b, s, h0, h1, h2, h3, h4, h5⟩ := hl i hi
  by_cases e : i = k
  · subst e
    exact ⟨p, q, s, by simp, by simp, by simp [h2], by simp [h3], by simp [h4], by simp [h5]⟩
  · have f1 : ∀ j, j < 6 → ((if i * 6 + j = k * 6 + 1 then Value.int .u8 q else if i * 6 + j = k * 6 then Value.int .u8 p else f (i * 6 + j)) = f (i * 6 + j)) := fun j hj => by rw [if_neg (by omega), if_neg (by omega)]
    exact ⟨a, b, s, (f1 0 (by omega)).trans h0, (f1 1 (by omega)).trans h1, (f1 2 (by omega)).trans h2, (f1 3 (by omega)).trans h3, (f1 4 (by omega)).trans h4, (f1 5 (by omega)).trans h5⟩

theorem key_state {wc wr : World} {n : Nat} (h : KeyInv wc wr n) {k : Nat} (hk : k < n) (z : Int) : KeyInv wc (wr.setCell ⟨wc.heap.size, k * 6 + 2, none⟩ (.int .u8 z)) n := by
  obtain ⟨⟨f, hr, hl⟩, hb⟩ := h
  refine ⟨⟨_, hr.set (k * 6 + 2) (.int .u8 z), fun i hi => ?_⟩, hb.setCell (Nat.le_refl _) _⟩
  obtain ⟨a, b, s, h0, h1, h2, h3, h4, h5⟩ := hl i hi
  by_cases e : i = k
  · subst e
    exact ⟨a, b, z, by simp [h0], by simp [h1], by simp, by simp [h3], by simp [h4], by simp [h5]⟩
  · have f1 : ∀ j, j < 6 → ((if i * 6 + j = k * 6 + 2 then Value.int .u8 z else f (i * 6 + j)) = f (i * 6 + j)) := fun j hj => by rw [if_neg (by omega)]
    exact ⟨a, b, s, (f1 0 (by omega)).trans h0, (f1 1 (by omega)).trans h1, (f1 2 (by omega)).trans h2, (f1 3 (by omega)).trans h3, (f1 4 (by omega)).trans h4, (f1 5 (by omega)).trans h5⟩

/-- When wipe has run. -/
structure Done (w w4 : World) (R K n : Nat) (A : Nat → Option Addr) (L g : Nat → Nat) (ao cl : Option Addr) (nw : Int) (f : Nat → Value) : Prop where
  r0 : w4.cell? ⟨R, 0, none⟩ = some (.slice (some ⟨K, 0, none⟩) n n)
  r1 : w4.cell? ⟨R, 1, none⟩ = some (.slice ao n n)
  r2 : w4.cell? ⟨R, 2, none⟩ = some (.int .i64 nw)
  keys : ∀ j, j < n * 6 → w4.cell? ⟨K, j, none⟩ = some (f j)
  like : KeyLike f n
  clone : 0 < n → ∃ b, cl = some ⟨b, 0, none⟩ ∧ ∀ j, j < n * 6 → w4.cell? ⟨b, j, none⟩ = some (f j)
  own : ∀ i, i < n → ao = some ⟨w.heap.size, 0, none⟩ ∧ w4.cell? ⟨w.heap.size, i, none⟩ = some (ownV A L g n i)
  zero : ∀ i, i < n → (A i).isSome = true → ∀ j, j < L i → w4.cell? ⟨g i, j, none⟩ = some (.int .u8 0)
  below : Below w.heap.size w w4

/-- What wipe's contract wants, when the ring is made. -/
theorem ready {w wc wk w2 : World} {a0 : Option Addr} {n : Nat} {A : Nat → Option Addr} {L g : Nat → Nat} {ao : Option Addr} (ho : OwnEnd w wc a0 n A L g ao) (hb1 : Below wc.heap.size wc wk) (hb2 : Below wk.heap.size wk w2) (ob : Obj) :
    (0 < n → (w2.alloc ob).rowIs w.heap.size 23 n (ownV A L g n)) ∧ (∀ i, i < n → (A i).isSome = true → ∃ f, (w2.alloc ob).rowIs (g i) 5 (L i) f) ∧ Below wc.heap.size wc (w2.alloc ob) := by
  have hz1 := hb1.size
  have hz2 := hb2.size
  have hb : Below wc.heap.size wc (w2.alloc ob) := (hb1.trans (hb2.mono hz1)).alloc (by omega) _
  refine ⟨fun h => ?_, fun i hi hs => ?_, hb⟩
  · have hr := (ho.row h).2
    exact hr.of_block (hb.block _ hr.lt)
  · obtain ⟨⟨f, hf⟩, _⟩ := ho.blk i hi hs
    exact ⟨f, hf.of_block (hb.block _ hf.lt)⟩

theorem done_of {w wc wk w2 w4 : World} {a0 : Option Addr} {n : Nat} {A : Nat → Option Addr} {L g : Nat → Nat} {ao cl : Option Addr} {nw : Int} {f : Nat → Value} (ho : OwnEnd w wc a0 n A L g ao)
    (hr : wk.rowIs wc.heap.size 37 (n * 6) f) (hl : KeyLike f n) (hb1 : Below wc.heap.size wc wk) (hb2 : Below wk.heap.size wk w2)
    (hcl : 0 < n → ∃ b, cl = some ⟨b, 0, none⟩ ∧ (∀ j, j < n * 6 → w2.cell? ⟨b, j, none⟩ = some (f j)) ∧ ∃ c fr, w2.heap[b]? = some (.cells c 37 fr))
    (hw : WipeInv (w2.alloc (.cells #[.slice (some ⟨wc.heap.size, 0, none⟩) n n, .slice ao n n, .int .i64 nw] 40)) w4 n A L g n) :
    Done w w4 w2.heap.size wc.heap.size n A L g ao cl nw f := by
  obtain ⟨rd1, rd2, rd3⟩ := ready ho hb1 hb2 (.cells #[.slice (some ⟨wc.heap.size, 0, none⟩) n n, .slice ao n n, .int .i64 nw] 40)
  have hz0 := ho.below.size
  have hz1 := hb1.size
  have hz2 := hb2.size
  -- a block below w2's end that is no byte row stands
  have low : ∀ b, b < w2.heap.size → (∀ c fr, w2.heap[b]? ≠ some (.cells c 5 fr)) → w4.heap[b]? = w2.heap[b]? := fun b hb hne => by
    have ha : (w2.alloc (.cells #[.slice (some ⟨wc.heap.size, 0, none⟩) n n, .slice ao n n, .int .i64 nw] 40)).heap[b]? = w2.heap[b]? := ((Below.refl w2.heap.size w2).alloc (Nat.le_refl _) _).block b hb
    rw [hw.frame b fun i hi hs e => ?_, ha]
    obtain ⟨f', c, hc, _⟩ := rd2 i hi hs
    rw [← e, ha] at hc
    exact hne _ _ hc
  have hR : w4.heap[w2.heap.size]? = some (.cells #[.slice (some ⟨wc.heap.size, 0, none⟩) n n, .slice ao n n, .int .i64 nw] 40 (0, 0)) := by
    rw [hw.frame _ fun i hi hs e => ?_]
    · exact heap_alloc_new w2 _
    · obtain ⟨f', c, hc, _⟩ := rd2 i hi hs
      rw [← e, heap_alloc_new w2 _] at hc
      simp at hc
  have hK2 : w2.rowIs wc.heap.size 37 (n * 6) f := hr.of_block (hb2.block _ hr.lt)
  have hK4 : w4.rowIs wc.heap.size 37 (n * 6) f := hK2.of_block (low _ hK2.lt fun c fr hc => by
    obtain ⟨c', hc', _⟩ := hK2
    rw [hc'] at hc
    simp at hc)
  refine ⟨by simp [World.cell?, hR], by simp [World.cell?, hR], by simp [World.cell?, hR], fun j hj => hK4.cell hj, hl, fun hp => ?_, fun i hi => ?_, fun i hi hs j hj => (hw.zero i hi hs).cell hj, ?_⟩
  · obtain ⟨b, hb, hc, c, fr, hblk⟩ := hcl hp
    refine ⟨b, hb, fun j hj => ?_⟩
    have hlt : b < w2.heap.size := World.block_lt_of_cell? _ _ (hc j hj)
    rw [World.cell?_of_block (w := w2) (low b hlt fun c' fr' hc' => by rw [hblk] at hc'; simp at hc')]
    exact hc j hj
  · obtain ⟨h1, h2⟩ := ho.row (by omega)
    refine ⟨h1, ?_⟩
    have h3 := rd1 (by omega)
    refine (World.cell?_of_block (hw.frame _ fun i' hi' hs' e => ?_)).trans (h3.cell hi)
    obtain ⟨f', hf'⟩ := rd2 i' hi' hs'
    rw [← e] at hf'
    exact rowIs_ne h3 hf' (by decide) rfl
  · refine (ho.below.trans (rd3.mono hz0)).trans ⟨hw.os, hw.tape, hw.output, Nat.le_of_eq hw.size.symm, fun b hb => hw.frame b fun i hi hs e => ?_⟩
    have := (ho.blk i hi hs).2
    omega
end Go.Proofs.Ybulkcats
