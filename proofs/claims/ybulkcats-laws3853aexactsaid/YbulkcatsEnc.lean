/-
  THE CONTRACT of 'encodeStore' (function 6) and THE WALK of 'LawS3853AExact' (function 3).
-/
import Derived.Test.YbulkcatsRows
import Derived.WalkKit
import Derived.ProofKit
import Derived.WalkLawsBesides
import Derived.Deep.AppendLies
import Derived.Lib.EndianBits
namespace Go.Proofs.Ybulkcats
open Go.ChangeShapes Go.WideShapes Go.ChangeAt Go.RowKit

theorem hd {p : Prop} (h : p) : Hid p := h
theorem Yba.info5 : (Yba.prog.info? 5).map (fun i => (i.zero, i.size, i.bytes)) = some (some (.int .u8 0), 1, 1) := by kernel_rfl

/-- Byte j of v, the least first. -/
def leV (v j : Nat) : Value := .int .u8 ((v / 256 ^ j % 256 : Nat) : Int)

theorem enc_zero (w : World) : Calls Yba.prog 6 #[.int .u64 0] w fun e w' => e = .returned (.slice (some ⟨w.heap.size, 0, none⟩) 1 1) ∧ w' = w.alloc (.cells #[.int .u8 1] 5) := by
  go_enter Yba.func6, Yba.ntmps6
  go_wp2
  go_ret
  exact ⟨rfl, rfl⟩

theorem le_cells (v : Nat) (h : v < 18446744073709551616) : [Value.int .u8 2] ++ [Value.int .u8 ((v : Int) % 256), Value.int .u8 ((v : Int) / 256 % 256), Value.int .u8 ((v : Int) / 65536 % 256), Value.int .u8 ((v : Int) / 16777216 % 256), Value.int .u8 ((v : Int) / 4294967296 % 256), Value.int .u8 ((v : Int) / 1099511627776 % 256), Value.int .u8 ((v : Int) / 281474976710656 % 256), Value.int .u8 ((v : Int) / 72057594037927936)] =
    .int .u8 2 :: (List.range 8).map (leV v) := by
  have e0 : ((v / 256 ^ 0 % 256 : Nat) : Int) = (v : Int) % 256 := by rw [show 256 ^ 0 = 1 by decide]; omega
  have e1 : ((v / 256 ^ 1 % 256 : Nat) : Int) = (v : Int) / 256 % 256 := by rw [show 256 ^ 1 = 256 by decide]; omega
  have e2 : ((v / 256 ^ 2 % 256 : Nat) : Int) = (v : Int) / 65536 % 256 := by rw [show 256 ^ 2 = 65536 by decide]; omega
  have e3 : ((v / 256 ^ 3 % 256 : Nat) : Int) = (v : Int) / 16777216 % 256 := by rw [show 256 ^ 3 = 16777216 by decide]; omega
  have e4 : ((v / 256 ^ 4 % 256 : Nat) : Int) = (v : Int) / 4294967296 % 256 := by rw [show 256 ^ 4 = 4294967296 by decide]; omega
  have e5 : ((v / 256 ^ 5 % 256 : Nat) : Int) = (v : Int) / 1099511627776 % 256 := by rw [show 256 ^ 5 = 1099511627776 by decide]; omega
  have e6 : ((v / 256 ^ 6 % 256 : Nat) : Int) = (v : Int) / 281474976710656 % 256 := by rw [show 256 ^ 6 = 281474976710656 by decide]; omega
  have e7 : ((v / 256 ^ 7 % 256 : Nat) : Int) = (v : Int) / 72057594037927936 := by rw [show 256 ^ 7 = 72057594037927936 by decide]; omega
  have hr : List.range 8 = [0, 1, 2, 3, 4, 5, 6, 7] := by decide
  rw [hr]
  simp only [List.map_cons, List.map_nil, leV, e0, e1, e2, e3, e4, e5, e6, e7, List.cons_append, List.nil_append]

set_option maxHeartbeats 1000000 in
set_option maxRecDepth 100000 in
theorem append10 (base n v : Nat) (sv : Value) (xs : List Value) (w : World) (hv : v < 18446744073709551616) (hown : w.ownsRow base 5 1 sv n xs) (hb : base ≤ w.heap.size) (hn : n ≤ 1000) :
    Calls Yba.prog 10 #[.agg #[], sv, .int .u64 v] w fun e w' => ∃ g cap, e = .returned (.slice (some ⟨g, 0, none⟩) (n + 8) cap) ∧
      w'.ownsRow base 5 1 (.slice (some ⟨g, 0, none⟩) (n + 8) cap) (n + 8) (xs ++ [Value.int .u8 ((v : Int) % 256), Value.int .u8 ((v : Int) / 256 % 256), Value.int .u8 ((v : Int) / 65536 % 256), Value.int .u8 ((v : Int) / 16777216 % 256), Value.int .u8 ((v : Int) / 4294967296 % 256), Value.int .u8 ((v : Int) / 1099511627776 % 256), Value.int .u8 ((v : Int) / 281474976710656 % 256), Value.int .u8 ((v : Int) / 72057594037927936)]) ∧ Below base w w' := by
  obtain ⟨i0, hi0, hz0, hz1, hz2⟩ := info_parts Yba.info5
  have HO := hd hown
  clear hown
  go_enter Yba.func10, Yba.ntmps10
  go_wp2_with (at_builtin; refine wpList_append_lies _ rfl _ _ 23 rfl base 5 i0 (.int .u8 0) 1 1 Yba.underlying23 hi0 hz0 hz1 hz2 rfl (by decide) sv n xs rfl ((HO.out.alloc _).alloc _) ⟨w.heap.size + 1, 0, none⟩ 8 8 [Value.int .u8 ((v : Int) % 256), Value.int .u8 ((v : Int) / 256 % 256), Value.int .u8 ((v : Int) / 65536 % 256), Value.int .u8 ((v : Int) / 16777216 % 256), Value.int .u8 ((v : Int) / 4294967296 % 256), Value.int .u8 ((v : Int) / 1099511627776 % 256), Value.int .u8 ((v : Int) / 281474976710656 % 256), Value.int .u8 ((v : Int) / 72057594037927936)] rfl rfl (World.news_of_block (cs := #[Value.int .u8 ((v : Int) % 256), Value.int .u8 ((v : Int) / 256 % 256), Value.int .u8 ((v : Int) / 65536 % 256), Value.int .u8 ((v : Int) / 16777216 % 256), Value.int .u8 ((v : Int) / 4294967296 % 256), Value.int .u8 ((v : Int) / 1099511627776 % 256), Value.int .u8 ((v : Int) / 281474976710656 % 256), Value.int .u8 ((v : Int) / 72057594037927936)]) (t := 5) (fr := (0, 0)) (by have := heap_alloc_new (w.alloc (.cells #[] 44)) (.cells #[Value.int .u8 ((v : Int) % 256), Value.int .u8 ((v : Int) / 256 % 256), Value.int .u8 ((v : Int) / 65536 % 256), Value.int .u8 ((v : Int) / 16777216 % 256), Value.int .u8 ((v : Int) / 4294967296 % 256), Value.int .u8 ((v : Int) / 1099511627776 % 256), Value.int .u8 ((v : Int) / 281474976710656 % 256), Value.int .u8 ((v : Int) / 72057594037927936)] 5); rw [World.size_alloc] at this; exact this)) (by simp [Value.oneCell']) (by omega) (by unfold maxLen; omega) (by omega) (by simp; omega) (w.heap.size + 1 + 1) (by simp) ?_; intro g cap w1 hown1 hgrow hat hlt)
  have hB : Below base w w1 := (((Below.refl base w).alloc hb _).alloc (by rw [World.size_alloc]; omega) _).grown hgrow (by rw [World.size_alloc, World.size_alloc]; omega) (fun k hk => (HO.out.lt k hk).1)
  have H1 := hd hown1
  have H2 := hd hB
  clear hown1 hgrow hB hat
  go_wp2
  go_ret
  exact ⟨g, cap, rfl, H1.out, H2.out⟩

set_option maxHeartbeats 1000000 in
set_option maxRecDepth 100000 in
theorem enc_some (v : Nat) (w : World) (h : v < 18446744073709551616) (h0 : v ≠ 0) : Calls Yba.prog 6 #[.int .u64 v] w fun e w' => ∃ g cap, e = .returned (.slice (some ⟨g, 0, none⟩) 9 cap) ∧
    w'.ownsRow w.heap.size 5 1 (.slice (some ⟨g, 0, none⟩) 9 cap) 9 (.int .u8 2 :: (List.range 8).map (leV v)) ∧ Below w.heap.size w w' := by
  have hne : ((v : Int) == 0) = false := by simp; omega
  have hpos : 0 < v := by omega
  clear h0
  have HC := hd (le_cells v h)
  have O : (w.alloc (.cells #[.int .u8 2] 5)).ownsRow w.heap.size 5 1 (.slice (some ⟨w.heap.size, 0, none⟩) 1 1) 1 [.int .u8 2] :=
    ⟨rfl, .inr ⟨w.heap.size, 1, #[.int .u8 2], rfl, Nat.le_refl _, heap_alloc_new w _, Nat.le_refl _, by unfold maxLen; omega, rfl, rfl⟩⟩
  have C := hd (append10 w.heap.size 1 v (.slice (some ⟨w.heap.size, 0, none⟩) 1 1) [.int .u8 2] (w.alloc (.cells #[.int .u8 2] 5)) h O (by rw [World.size_alloc]; omega) (by omega))
  clear O
  go_enter Yba.func6, Yba.ntmps6
  go_wp2_with fail
  refine C.out.mono ?_
  rintro e w1 ⟨g, cap, rfl, hown, hbel⟩
  rw [HC.out] at hown
  have HO := hd hown
  have HB := hd (((Below.refl w.heap.size w).alloc (Nat.le_refl _) _).trans hbel)
  clear hown hbel
  go_wp2
  go_ret
  exact ⟨g, cap, rfl, HO.out, HB.out⟩

theorem mask8 (y : Nat) (h : y < 18446744073709551616) : bits .and .u64 (y : Int) 255 = (y : Int) % 256 := bits_mask .u64 64 (by decide) wraps_u64 8 (by decide) (y : Int) (by omega) (by omega)

set_option maxHeartbeats 1000000 in
set_option maxRecDepth 100000 in
theorem exact_any (v : Nat) (w : World) (h : v < 18446744073709551616) : Calls Yba.prog 3 #[.int .u64 v] w fun e w' => e = .returned (.bool true) ∧ Below w.heap.size w w' := by
  by_cases h0 : v = 0
  · subst h0
    go_enter Yba.func3, Yba.ntmps3
    go_wp2_with fail
    refine (enc_zero w).mono ?_
    rintro e w1 ⟨rfl, rfl⟩
    go_wp2
    go_ret
    exact ⟨rfl, (Below.refl _ _).alloc (Nat.le_refl _) _⟩
  · have hne : ((v : Int) == 0) = false := by simp; omega
    have C := hd (enc_some v w h h0)
    clear h0
    go_enter Yba.func3, Yba.ntmps3
    go_wp2_with fail
    refine C.out.mono ?_
    rintro e w1 ⟨g, cap, rfl, hown, hbel⟩
    have hc : ∀ j, j < 8 → w1.cell? ⟨g, j + 1, none⟩ = some (leV v j) := fun j hj => by
      have := hown.cells (g := g) rfl (j + 1) (leV v j) (by simp [hj])
      rw [show (⟨g, 0, none⟩ : Addr).add (j + 1) = ⟨g, j + 1, none⟩ by unfold Addr.add; split <;> simp_all] at this
      exact this
    have c0 : w1.cell? ⟨g, 0, none⟩ = some (.int .u8 2) := by
      have := hown.cells (g := g) rfl 0 (.int .u8 2) (by simp)
      rw [show (⟨g, 0, none⟩ : Addr).add 0 = ⟨g, 0, none⟩ by unfold Addr.add; split <;> simp_all] at this
      exact this
    have HC := hd hc
    have HB := hd hbel
    clear hc hown hbel C
    go_wp2
    go_loop [4, 5] (fun x i => ∃ k y : Nat, k ≤ 8 ∧ i = .int .i64 ((k : Int) + 1) ∧ x = .int .u64 y ∧ y = v / 256 ^ k) (fun _ i => (9 - intOf i).toNat)
    case atStart => exact ⟨0, v, by omega, rfl, rfl, by simp⟩
    case round =>
      obtain ⟨k, y, hk, rfl, rfl, hy⟩ := hrel
      have hyl : y < 18446744073709551616 := by rw [hy]; exact Nat.lt_of_le_of_lt (Nat.div_le_self _ _) h
      have HY := hd hy
      by_cases hlt : k < 8
      · have hcell : w1.cell? ⟨g, k + 1, none⟩ = some (.int .u8 ((y % 256 : Nat) : Int)) := by rw [HC.out k hlt, leV, ← hy]
        have hm := mask8 y hyl
        clear hy
        go_wp2
        go_round
        case rel => exact ⟨k + 1, y / 256, by omega, by go_num, by go_num, by rw [HY.out, Nat.pow_succ, Nat.div_div_eq_div_mul]⟩
        case measure => simp [intOf]; omega
      · clear hy
        go_wp2
        go_ret
        exact ⟨rfl, HB.out⟩
end Go.Proofs.Ybulkcats
