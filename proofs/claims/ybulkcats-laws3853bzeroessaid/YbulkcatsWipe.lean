/-
  THE CONTRACT of '(*Ring).wipe' (function 7).
-/
import Derived.Test.YbulkcatsMem
namespace Go.Proofs.Ybulkcats
open Go.ChangeShapes Go.WideShapes Go.ChangeAt Go.RowKit Go.Deep

theorem zero5 (w : World) : (zeroValue 5).run Yba.prog w = .ok (.int .u8 0) w := by kernel_rfl

/-- What has been wiped when k of the n KEKs are through; W: the world when wipe began. -/
structure WipeInv (W wr : World) (n : Nat) (A : Nat → Option Addr) (L g : Nat → Nat) (k : Nat) : Prop where
  os : wr.os = W.os
  tape : wr.tape = W.tape
  output : wr.output = W.output
  size : wr.heap.size = W.heap.size
  frame : ∀ b, (∀ i, i < n → (A i).isSome = true → b ≠ g i) → wr.heap[b]? = W.heap[b]?
  zero : ∀ i, i < k → (A i).isSome = true → wr.rowIs (g i) 5 (L i) (fun _ => .int .u8 0)
  rest : ∀ i, i < n → (A i).isSome = true → ∃ f, wr.rowIs (g i) 5 (L i) f

theorem wipe_none {W wr : World} {n : Nat} {A : Nat → Option Addr} {L g : Nat → Nat} {k : Nat} (h : WipeInv W wr n A L g k) (hA : A k = none ∨ L k = 0) (hk : k < n) : WipeInv W wr n A L g (k + 1) := by
  refine ⟨h.os, h.tape, h.output, h.size, h.frame, fun i hi hs => ?_, h.rest⟩
  by_cases e : i = k
  · subst e
    rcases hA with hA | hA
    · rw [hA] at hs; cases hs
    · obtain ⟨f, hf⟩ := h.rest i hk hs
      exact hf.congr fun j hj => by omega
  · exact h.zero i (by omega) hs

theorem wipe_one {W wr : World} {n : Nat} {A : Nat → Option Addr} {L g : Nat → Nat} {k : Nat} (h : WipeInv W wr n A L g k) (hk : k < n) (hA : (A k).isSome = true) :
    WipeInv W (wr.setCells (g k) 0 (List.replicate (L k) (.int .u8 0))) n A L g (k + 1) := by
  obtain ⟨f, hf⟩ := h.rest k hk hA
  have hb := below_setCells (Nat.le_refl (g k)) (List.replicate (L k) (Value.int .u8 0)) 0 (Below.refl (g k) wr)
  have hsz : (wr.setCells (g k) 0 (List.replicate (L k) (.int .u8 0))).heap.size = wr.heap.size := by
    have : ∀ (vs : List Value) (o : Nat) (w : World), (w.setCells (g k) o vs).heap.size = w.heap.size := by
      intro vs
      induction vs with
      | nil => intro o w; rfl
      | cons v vs ih =>
        intro o w
        show ((w.setCell ⟨g k, o, none⟩ v).setCells (g k) (o + 1) vs).heap.size = _
        rw [ih]
        simp [World.setCell]
    exact this _ _ _
  have hz : (wr.setCells (g k) 0 (List.replicate (L k) (.int .u8 0))).rowIs (g k) 5 (L k) (fun _ => .int .u8 0) := by
    refine (rowIs_setCells (g k) 5 (L k) (List.replicate (L k) (.int .u8 0)) 0 wr f hf).congr fun j hj => ?_
    rw [if_pos (by rw [List.length_replicate]; omega)]
    simp [hj]
  have other : ∀ b, b ≠ g k → (wr.setCells (g k) 0 (List.replicate (L k) (.int .u8 0))).heap[b]? = wr.heap[b]? := fun b hne => heap_setCells_ne _ _ _ _ _ hne
  refine ⟨hb.os.trans h.os, hb.tape.trans h.tape, hb.output.trans h.output, hsz.trans h.size, fun b hne => ?_, fun i hi hs => ?_, fun i hi hs => ?_⟩
  · rw [other b (hne k hk hA)]
    exact h.frame b hne
  · by_cases e : g i = g k
    · by_cases ei : i = k
      · subst ei; exact hz
      · have hi' := h.zero i (by omega) hs
        -- one block: the two rows are of one length
        obtain ⟨c, hc, hn, _⟩ := hi'
        obtain ⟨c', hc', hn', _⟩ := hf
        rw [e, hc'] at hc
        simp at hc
        obtain ⟨c2, h2, hn2, hcell⟩ := hz
        refine ⟨c2, by rw [e]; exact h2, by rw [hn2, ← hn', hc, hn], fun j hj => hcell j (by rw [← hn', hc, hn]; exact hj)⟩
    · by_cases ei : i = k
      · subst ei; exact absurd rfl e
      · exact (h.zero i (by omega) hs).of_block (other _ e)
  · by_cases e : g i = g k
    · obtain ⟨f2, c, hc, hn, _⟩ := h.rest i hi hs
      obtain ⟨c', hc', hn', _⟩ := hf
      rw [e, hc'] at hc
      simp at hc
      obtain ⟨c2, h2, hn2, hcell⟩ := hz
      exact ⟨fun _ => .int .u8 0, c2, by rw [e]; exact h2, by rw [hn2, ← hn', hc, hn], fun j hj => hcell j (by rw [← hn', hc, hn]; exact hj)⟩
    · obtain ⟨f2, hf2⟩ := h.rest i hi hs
      exact ⟨f2, hf2.of_block (other _ e)⟩

theorem clear_zero (w : World) (a : Option Addr) (c ty : Nat) : (Builtin.clear_ #[23] ty #[.slice a 0 c]).run Yba.prog w = .ok (.tuple #[]) w := by
  cases a <;> simp [Builtin.clear_, run_underlying Yba.underlying23]

theorem wipe_nil (w : World) : Calls Yba.prog 7 #[.pointer none] w fun e w' => e = .returned (.tuple #[]) ∧ w' = w := by
  go_enter Yba.func7, Yba.ntmps7
  go_wp2
  exact bodyPost_ret (v := .tuple #[]) (results_none rfl _ _ _) rfl ⟨rfl, rfl⟩

set_option maxHeartbeats 1000000 in
theorem wipe_any (R B n : Nat) (ao : Option Addr) (A : Nat → Option Addr) (L g : Nat → Nat) (w : World) (hn : n ≤ 1024) (hr : w.cell? ⟨R, 1, none⟩ = some (.slice ao n n)) (hao : 0 < n → ao = some ⟨B, 0, none⟩)
    (hrow : 0 < n → w.rowIs B 23 n (ownV A L g n)) (hblk : ∀ i, i < n → (A i).isSome = true → ∃ f, w.rowIs (g i) 5 (L i) f) :
    Calls Yba.prog 7 #[.pointer (some ⟨R, 0, none⟩)] w fun e w' => e = .returned (.tuple #[]) ∧ WipeInv w w' n A L g n := by
  have HAO := hid hao
  have HROW := hid hrow
  have HBLK := hid hblk
  clear hao hrow hblk
  go_enter Yba.func7, Yba.ntmps7
  go_wp2
  go_loopw [11] (fun i wr => ∃ k : Nat, k ≤ n ∧ i = .int .i64 k ∧ WipeInv w wr n A L g k) (fun i _ => n - (intOf i).toNat)
  case atStart => exact ⟨0, Nat.zero_le _, rfl, rfl, rfl, rfl, rfl, fun _ _ => rfl, fun i hi => by omega, HBLK.out⟩
  case round =>
    obtain ⟨k, hk, rfl, hinv⟩ := hrel
    have HI := hid hinv
    clear hinv
    by_cases hlt : k < n
    · have hB := HAO.out (by omega)
      subst hB
      have hrB := HROW.out (by omega)
      have hne : ∀ i, i < n → (A i).isSome = true → B ≠ g i := fun i hi hs => by
        obtain ⟨f, hf⟩ := HBLK.out i hi hs
        exact rowIs_ne hrB hf (by decide)
      have hcell : wr.cell? ⟨B, k, none⟩ = some (ownV A L g n k) := (World.cell?_of_block (w := w) (HI.out.frame B hne)).trans (hrB.cell hlt)
      clear hrB hne
      cases hA : A k with
      | none =>
        have e1 : ownV A L g n k = .slice none 0 0 := by unfold ownV; rw [hA]; simp
        rw [e1] at hcell
        have hcl := clear_zero wr none 0
        have HN := hid (wipe_none HI.out (.inl hA) hlt)
        clear hA e1
        go_wp2
        go_roundw
        case rel => exact ⟨k + 1, by omega, by go_num, HN.out⟩
        case measure => simp [intOf]; omega
      | some ad =>
        have hs : (A k).isSome = true := by rw [hA]; rfl
        have e1 : ownV A L g n k = .slice (some ⟨g k, 0, none⟩) (L k) (L k) := by unfold ownV; rw [if_pos ⟨hlt, hs⟩]
        rw [e1] at hcell
        by_cases hl : L k = 0
        · have HN := hid (wipe_none HI.out (.inr hl) hlt)
          rw [hl] at hcell
          have hcl := clear_zero wr (some ⟨g k, 0, none⟩) 0
          clear hA e1 hs hl
          go_wp2
          go_roundw
          case rel => exact ⟨k + 1, by omega, by go_num, HN.out⟩
          case measure => simp [intOf]; omega
        · have HN := hid (wipe_one HI.out hlt hs)
          obtain ⟨f, hf⟩ := HI.out.rest k hlt hs
          have hcl : ∀ ty, (Builtin.clear_ #[23] ty #[.slice (some ⟨g k, 0, none⟩) (L k) (L k)]).run Yba.prog wr = .ok (.tuple #[]) (wr.setCells (g k) 0 (List.replicate (L k) (.int .u8 0))) :=
            fun ty => Lib.run_clear_slice wr 23 5 ty (.int .u8 0) Yba.underlying23 zero5 rfl rfl (g k) 0 (L k) (L k) (by omega) (fun j hj => by rw [Nat.zero_add, hf.cell hj]; rfl) (fun j hj => hf.frozen _)
          clear hA e1 hs hl hf
          go_wp2
          go_roundw
          case rel => exact ⟨k + 1, by omega, by go_num, HN.out⟩
          case measure => simp [intOf]; omega
    · obtain rfl : k = n := by omega
      go_wp2
      go_end0
      exact ⟨rfl, HI.out⟩
end Go.Proofs.Ybulkcats
