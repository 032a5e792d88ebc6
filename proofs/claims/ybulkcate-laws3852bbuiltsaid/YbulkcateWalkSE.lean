/-
  THE CONTRACTS of 'stringEnd' (function 7) and of the escape-flag scan (function 8): both hand back the plain function 'Scan.G', at every start in [0, len + 1].
-/
import Derived.Test.YbulkcateRows
import Derived.Test.YbulkcateScan
import Derived.WalkKit
import Derived.ProofKit
import Derived.WalkLawsBesides
namespace Go.Proofs.Ybulkcate
open Go.ChangeShapes Go.WideShapes Go.ChangeAt Go.RowKit
open Scan

theorem byte_eq (c : UInt8) (n : Nat) (h : (c.toNat : Int) = n) (hn : n < 256) : c = UInt8.ofNat n := by
  apply UInt8.toNat_inj.1
  rw [UInt8.toNat_ofNat']
  omega

theorem byte_ne (c d : UInt8) (h : ¬ (c.toNat : Int) = d.toNat) : ¬ c = d := fun e => h (by rw [e])

theorem byte_lt (c : UInt8) (h : (c.toNat : Int) < 32) : c < 32 := by
  rw [UInt8.lt_iff_toNat_lt]
  show c.toNat < 32
  omega

theorem byte_nlt (c : UInt8) (h : 32 ≤ (c.toNat : Int)) : ¬ c < 32 := by
  rw [UInt8.lt_iff_toNat_lt]
  show ¬ c.toNat < 32
  omega

/-- The four steps, in the walk's own forms. -/
theorem g_stop (s : ByteArray) (k : Nat) (b : Bool) (hk : k < s.size) (h : (s[k].toNat : Int) = 34 ∨ (s[k].toNat : Int) < 32) : G s.data.toList k b = (k, b) := by
  refine G_stop _ _ _ (by simpa using hk) ?_
  show s[k] = 34 ∨ s[k] < 32
  rcases h with h | h
  · exact .inl (byte_eq _ 34 h (by decide))
  · exact .inr (byte_lt _ h)

theorem g_esc (s : ByteArray) (k : Nat) (b : Bool) (hk : k < s.size) (h : (s[k].toNat : Int) = 92) : G s.data.toList k b = G s.data.toList (k + 2) false := by
  refine G_esc _ _ _ (by simpa using hk) ?_
  exact byte_eq _ 92 h (by decide)

theorem g_plain (s : ByteArray) (k : Nat) (b : Bool) (hk : k < s.size) (h1 : ¬ (s[k].toNat : Int) = 34) (h2 : 32 ≤ (s[k].toNat : Int)) (h3 : ¬ (s[k].toNat : Int) = 92) : G s.data.toList k b = G s.data.toList (k + 1) b := by
  refine G_plain _ _ _ (by simpa using hk) ?_ ?_
  · show ¬ (s[k] = 34 ∨ s[k] < 32)
    rintro (h | h)
    · exact byte_ne _ 34 h1 h
    · exact byte_nlt _ h2 h
  · exact byte_ne _ 92 h3

theorem g_end (s : ByteArray) (k : Nat) (b : Bool) (hk : ¬ k < s.size) : G s.data.toList k b = (s.size, b) := by
  rw [G_end _ _ _ (by simp; omega)]
  simp

theorem ret_pair {a : Nat} {b : Bool} {x : Nat × Bool} (h : x = (a, b)) : Ending.returned (.tuple #[.int .i64 (a : Int), .bool b]) = .returned (.tuple #[.int .i64 (x.1 : Int), .bool x.2]) := by rw [h]

set_option maxHeartbeats 400000 in
theorem stringEnd_any (s : ByteArray) (f : Nat) (w : World) (hs : s.size ≤ 4096) (hf : f ≤ s.size + 1) :
    Calls Yba.prog 7 #[.string s, .int .i64 f] w fun e w' => e = .returned (.tuple #[.int .i64 (G s.data.toList f true).1, .bool (G s.data.toList f true).2]) ∧ w' = w := by
  go_enter Yba.func7, Yba.ntmps7
  go_wp2
  go_loop [4, 5] (fun i p => ∃ (k : Nat) (b : Bool), k ≤ s.size + 1 ∧ i = .int .i64 k ∧ p = .bool b ∧ G s.data.toList k b = G s.data.toList f true) (fun i _ => s.size + 1 - (intOf i).toNat)
  case atStart => exact ⟨f, true, hf, rfl, rfl, rfl⟩
  case round =>
    obtain ⟨k, b, hk, rfl, rfl, hG⟩ := hrel
    have HG : Hid (G s.data.toList k b = G s.data.toList f true) := hG
    clear hG
    by_cases hlt : k < s.size
    · by_cases h1 : (s[k].toNat : Int) = 34
      · have E : Hid (G s.data.toList f true = (k, b)) := HG.out.symm.trans (g_stop s k b hlt (.inl h1))
        go_wp2
        go_ret2
        exact ⟨ret_pair E.out, rfl⟩
      · have hb : ((s[k].toNat : Int) != 34) = true := by simpa using h1
        by_cases h2 : (s[k].toNat : Int) < 32
        · have E : Hid (G s.data.toList f true = (k, b)) := HG.out.symm.trans (g_stop s k b hlt (.inr h2))
          go_wp2
          go_ret2
          exact ⟨ret_pair E.out, rfl⟩
        · by_cases h3 : (s[k].toNat : Int) = 92
          · have E : Hid (G s.data.toList (k + 2) false = G s.data.toList f true) := (g_esc s k b hlt h3).symm.trans HG.out
            go_wp2
            go_round
            case rel => exact ⟨k + 2, false, by omega, by go_num, rfl, E.out⟩
            case measure => simp [intOf]; omega
          · have E : Hid (G s.data.toList (k + 1) b = G s.data.toList f true) := (g_plain s k b hlt h1 (by omega) h3).symm.trans HG.out
            go_wp2
            go_round
            case rel => exact ⟨k + 1, b, by omega, by go_num, rfl, E.out⟩
            case measure => simp [intOf]; omega
    · have E : Hid (G s.data.toList f true = (s.size, b)) := HG.out.symm.trans (g_end s k b hlt)
      go_wp2
      all_goals
        go_ret2
        exact ⟨by first | exact ret_pair E.out | (rw [show (k : Int) = (s.size : Int) by omega]; exact ret_pair E.out), rfl⟩

/-- What the escape-flag scan has still to find: behind an escape the next byte is passed over. -/
def M (s : ByteArray) (k : Nat) (p esc : Bool) : Nat × Bool := if esc then G s.data.toList (k + 1) p else G s.data.toList k p

set_option maxHeartbeats 400000 in
theorem model_any (s : ByteArray) (f : Nat) (w : World) (hs : s.size ≤ 4096) (hf : f ≤ s.size + 1) :
    Calls Yba.prog 8 #[.string s, .int .i64 f] w fun e w' => e = .returned (.tuple #[.int .i64 (G s.data.toList f true).1, .bool (G s.data.toList f true).2]) ∧ w' = w := by
  go_enter Yba.func8, Yba.ntmps8
  go_wp2
  go_loop [6, 7, 8] (fun p e i => ∃ (k : Nat) (b esc : Bool), k ≤ s.size + 1 ∧ i = .int .i64 k ∧ p = .bool b ∧ e = .bool esc ∧ M s k b esc = G s.data.toList f true) (fun _ _ i => s.size + 1 - (intOf i).toNat)
  case atStart => exact ⟨f, true, false, hf, rfl, rfl, rfl, rfl⟩
  case round =>
    obtain ⟨k, b, esc, hk, rfl, rfl, rfl, hG⟩ := hrel
    have HG : Hid (M s k b esc = G s.data.toList f true) := hG
    clear hG
    by_cases hlt : k < s.size
    · cases esc with
      | true =>
        have E : Hid (M s (k + 1) b false = G s.data.toList f true) := HG.out
        go_wp2
        go_round
        case rel => exact ⟨k + 1, b, false, by omega, by go_num, rfl, rfl, E.out⟩
        case measure => simp [intOf]; omega
      | false =>
        by_cases h1 : (s[k].toNat : Int) = 34
        · have E : Hid (G s.data.toList f true = (k, b)) := HG.out.symm.trans (g_stop s k b hlt (.inl h1))
          go_wp2
          go_ret2
          exact ⟨ret_pair E.out, rfl⟩
        · by_cases h2 : (s[k].toNat : Int) < 32
          · have E : Hid (G s.data.toList f true = (k, b)) := HG.out.symm.trans (g_stop s k b hlt (.inr h2))
            go_wp2
            go_ret2
            exact ⟨ret_pair E.out, rfl⟩
          · by_cases h3 : (s[k].toNat : Int) = 92
            · have E : Hid (M s (k + 1) false true = G s.data.toList f true) := (g_esc s k b hlt h3).symm.trans HG.out
              go_wp2
              go_round
              case rel => exact ⟨k + 1, false, true, by omega, by go_num, rfl, rfl, E.out⟩
              case measure => simp [intOf]; omega
            · have E : Hid (M s (k + 1) b false = G s.data.toList f true) := (g_plain s k b hlt h1 (by omega) h3).symm.trans HG.out
              go_wp2
              go_round
              case rel => exact ⟨k + 1, b, false, by omega, by go_num, rfl, rfl, E.out⟩
              case measure => simp [intOf]; omega
    · have E : Hid (G s.data.toList f true = (s.size, b)) := HG.out.symm.trans (by unfold M; split; exact g_end s _ b (by omega); exact g_end s _ b hlt)
      go_wp2
      go_ret2
      exact ⟨ret_pair E.out, rfl⟩
end Go.Proofs.Ybulkcate
