/-
  THE CONTRACTS of '(*column[int]).at' (function 10) and 'nameAt' (function 6): they only read.
-/
import Derived.Test.YbulkcateRows
import Derived.WalkKit
import Derived.ProofKit
import Derived.WalkLawsBesides
import Derived.WalkSpells
namespace Go.Proofs.Ybulkcate
open Go.ChangeShapes Go.WideShapes Go.ChangeAt Go.RowKit

theorem hd {p : Prop} (h : p) : Hid p := h

/-- Value i of a column: block i / 4096, cell i % 4096. -/
theorem at_any (cb g gj nb cap i : Nat) (x : Int) (hx : x = i) (w : World) (hc : w.cell? ⟨cb, 0, none⟩ = some (.slice (some ⟨g, 0, none⟩) nb cap)) (hi : i / 4096 < nb) (hb : i ≤ 100000)
    (hg : w.cell? ⟨g, i / 4096, none⟩ = some (.slice (some ⟨gj, 0, none⟩) 4096 4096)) :
    Calls Yba.prog 10 #[.pointer (some ⟨cb, 0, none⟩), .int .i64 x] w fun e w' => e = .returned (.pointer (some ⟨gj, i % 4096, none⟩)) ∧ w' = w := by
  subst hx
  have hm : i % 4096 < 4096 := Nat.mod_lt _ (by omega)
  go_enter Yba.func10, Yba.ntmps10
  go_wp2
  go_ret
  exact ⟨rfl, rfl⟩

/-- A column that holds, for value i < n, the number 'P (i + 1)'. -/
def Col (w : World) (cb : Nat) (n : Nat) (P : Nat → Nat) : Prop :=
  ∃ g nb cap : Nat, w.cell? ⟨cb, 0, none⟩ = some (.slice (some ⟨g, 0, none⟩) nb cap) ∧
    ∀ i, i < n → i / 4096 < nb ∧ ∃ gj, w.cell? ⟨g, i / 4096, none⟩ = some (.slice (some ⟨gj, 0, none⟩) 4096 4096) ∧ w.cell? ⟨gj, i % 4096, none⟩ = some (.int .i64 (P (i + 1) : Nat))

set_option maxHeartbeats 400000 in
theorem nameAt_any (s : ByteArray) (cb n k : Nat) (P : Nat → Nat) (w : World) (hn : n ≤ 100000) (hk : k < n) (hcol : Col w cb n P) (h0 : P 0 = 0) (hp : P k ≤ P (k + 1)) (hs : P (k + 1) ≤ s.size) (_hmax : s.size ≤ 2000000) :
    Calls Yba.prog 6 #[.string s, .pointer (some ⟨cb, 0, none⟩), .int .i64 k] w fun e w' => e = .returned (.string (s.extract (P k) (P (k + 1)))) ∧ w' = w := by
  obtain ⟨g, nb, cap, hc, hat⟩ := hcol
  obtain ⟨hb1, g1, hg1, hv1⟩ := hat k hk
  cases k with
  | zero =>
    clear hat
    have A := at_any cb g g1 nb cap 0 0 rfl w hc hb1 (by omega) hg1
    have HA := hd A
    clear A hg1 hc hb1
    rw [h0]
    simp only [Nat.zero_mod, Nat.zero_add] at hv1 HA hs hp
    obtain ⟨q, hq⟩ : ∃ q, q = P (0 + 1) := ⟨_, rfl⟩
    simp only [Nat.zero_add] at hq
    rw [show (0 : Nat) + 1 = 1 from rfl, ← hq]
    rw [← hq] at hv1 hs
    clear hq h0 hp
    go_enter Yba.func6, Yba.ntmps6
    go_wp2_with fail
    refine HA.out.mono ?_
    rintro e w2 ⟨rfl, hw⟩
    subst w2
    go_wp2
    go_ret
    exact ⟨rfl, rfl⟩
  | succ j =>
    obtain ⟨hb0, g0, hg0, hv0⟩ := hat j (by omega)
    clear hat
    have A1 := at_any cb g g1 nb cap (j + 1) ((j : Int) + 1) (by omega) w hc hb1 (by omega) hg1
    have A0 := at_any cb g g0 nb cap j j rfl w hc hb0 (by omega) hg0
    have H1 := hd A1
    have H0 := hd A0
    clear A0 A1 hg1 hg0 hc hb1 hb0
    obtain ⟨q0, hq0⟩ : ∃ q, q = P (j + 1) := ⟨_, rfl⟩
    obtain ⟨q1, hq1⟩ : ∃ q, q = P (j + 1 + 1) := ⟨_, rfl⟩
    rw [← hq0] at hv0 hp ⊢
    rw [← hq1] at hv1 hp hs ⊢
    clear hq0 hq1 h0
    go_enter Yba.func6, Yba.ntmps6
    go_wp2_with fail
    refine H0.out.mono ?_
    rintro e w2 ⟨rfl, hw⟩
    subst w2
    go_wp2_with fail
    refine H1.out.mono ?_
    rintro e w2 ⟨rfl, hw⟩
    subst w2
    go_wp2
    go_ret
    exact ⟨rfl, rfl⟩
end Go.Proofs.Ybulkcate
