/-
  THE CONTRACT of 'slices.Equal' (function 9) at []KeyInfo.
-/
import Derived.Test.YbulkcatsKeys
import Derived.Laws.StructEq
namespace Go.Proofs.Ybulkcats
open Go.ChangeShapes Go.WideShapes Go.ChangeAt Go.RowKit Go.Deep

theorem eqArr (w : World) (d : Nat) (a b : Int) : (Op.equalIn (d + 2) 31 (.agg #[.int .u8 a, .int .u8 b]) (.agg #[.int .u8 a, .int .u8 b])).run Yba.prog w = .ok true w := by
  have e1 := fun (w : World) (a : Int) => run_equalIn_int w d 5 .u8 .u8 a a Yba.underlying5
  rw [Op.equalIn]
  simp only [Sem.run_bind, run_underlying Yba.underlying31, Result.andThen_ok, Std.Legacy.Range.forIn_eq_forIn_range', Std.Legacy.Range.size, Yba.sizeOf5]
  simp [List.range', part, isAgg, run_underlying Yba.underlying5, e1]

theorem neq37 (w : World) (a b s : Int) : (binOp .neq 37 (.agg #[.int .u8 a, .int .u8 b, .int .u8 s, .int .u64 0, .int .i64 0, .pointer none]) (.agg #[.int .u8 a, .int .u8 b, .int .u8 s, .int .u64 0, .int .i64 0, .pointer none])).run Yba.prog w = .ok (.bool false) w := by
  have hS : Yba.prog.underlying 37 = some (.struct (Yba.prog.fieldsOf 37)) := by kernel_rfl
  have hp : Yba.prog.stoodInHeld 37 = false := by kernel_rfl
  have key : ∀ d, (Op.equalIn (d + 4) 37 (.agg #[.int .u8 a, .int .u8 b, .int .u8 s, .int .u64 0, .int .i64 0, .pointer none]) (.agg #[.int .u8 a, .int .u8 b, .int .u8 s, .int .u64 0, .int .i64 0, .pointer none])).run Yba.prog w = .ok true w := fun d => by
    have ha := eqArr w (d + 1) a b
    have hc : (Op.equalIn (d + 2) 33 (.pointer none) (.pointer none)).run Yba.prog w = .ok true w := by simp [Op.equalIn, run_underlying Yba.underlying33]
    rw [show d + 4 = (d + 3) + 1 from rfl, run_equalIn_agg w (d + 3) 37 _ _ hS hp]
    simp only [Program.fieldsOf, Yba.underlying37]
    go_simp
  rw [run_neq_struct, show (10000 : Nat) = 9996 + 4 from rfl, key 9996]
  rfl

set_option maxHeartbeats 1000000 in
theorem equal9 (K n cap : Nat) (ao : Option Addr) (f : Nat → Value) (w : World) (hn : n ≤ 1024) (hr : ∀ j, j < n * 6 → w.cell? ⟨K, j, none⟩ = some (f j)) (hk : KeyLike f n)
    (hs : 0 < n → ∃ g, ao = some ⟨g, 0, none⟩ ∧ ∀ j, j < n * 6 → w.cell? ⟨g, j, none⟩ = some (f j)) :
    Calls Yba.prog 9 #[.slice (some ⟨K, 0, none⟩) n n, .slice ao n cap] w fun e w' => e = .returned (.bool true) ∧ ∃ m, w' = w.drewN m := by
  have HR := hid hr
  have HK := hid hk
  have HS := hid hs
  clear hr hk hs
  go_enter Yba.func9, Yba.ntmps9
  go_wp2
  go_loopw [13] (fun i wr => ∃ k : Nat, k ≤ n ∧ i = .int .i64 k ∧ ∃ m, wr = w.drewN m) (fun i _ => n - (intOf i).toNat)
  case atStart => exact ⟨0, Nat.zero_le _, rfl, 0, rfl⟩
  case round =>
    obtain ⟨k, hk, rfl, m, rfl⟩ := hrel
    by_cases hlt : k < n
    · obtain ⟨g, rfl, hg⟩ := HS.out (by omega)
      obtain ⟨a, b, s, e0, e1, e2, e3, e4, e5⟩ := HK.out k hlt
      have c0 := HR.out (k * 6) (by omega)
      have c1 := HR.out (k * 6 + 1) (by omega)
      have c2 := HR.out (k * 6 + 2) (by omega)
      have c3 := HR.out (k * 6 + 3) (by omega)
      have c4 := HR.out (k * 6 + 4) (by omega)
      have c5 := HR.out (k * 6 + 5) (by omega)
      have d0 := hg (k * 6) (by omega)
      have d1 := hg (k * 6 + 1) (by omega)
      have d2 := hg (k * 6 + 2) (by omega)
      have d3 := hg (k * 6 + 3) (by omega)
      have d4 := hg (k * 6 + 4) (by omega)
      have d5 := hg (k * 6 + 5) (by omega)
      rw [e0] at c0 d0
      rw [e1] at c1 d1
      rw [e2] at c2 d2
      rw [e3] at c3 d3
      rw [e4] at c4 d4
      rw [e5] at c5 d5
      clear e0 e1 e2 e3 e4 e5 hg
      have hq := fun (W : World) => neq37 W a b s
      go_wp2
      go_quiet (fail)
      go_wp2
      go_roundw
      case rel => exact ⟨k + 1, by omega, by go_num, _, rfl⟩
      case measure => simp [intOf]; omega
    · obtain rfl : k = n := by omega
      go_wp2
      go_ret
      exact ⟨rfl, m, rfl⟩
end Go.Proofs.Ybulkcats
