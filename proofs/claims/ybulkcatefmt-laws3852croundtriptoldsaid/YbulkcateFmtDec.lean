/-
  THE CONTRACT of 'encoding/binary.Uvarint' (function 21) at bytes that begin with a number's own varint.
-/
import Derived.Test.YbulkcateFmtUv
import Derived.Lib.VarintBits
namespace Go.Proofs.YbulkcateFmt
open Go.ChangeShapes Go.WideShapes Go.ChangeAt Go.RowKit

/-! ### No walk here -/
theorem pow7 (k : Nat) : (2 : Nat) ^ (7 * (k + 1)) = 128 * 2 ^ (7 * k) := by
  rw [show 7 * (k + 1) = 7 * k + 7 by omega, Nat.pow_add]
  omega
theorem pow_pos (k : Nat) : 1 ≤ (2 : Nat) ^ (7 * k) := Nat.one_le_two_pow
/-- x | c << 7k, as a sum. -/
theorem join7 (X c k : Nat) (hX : X < 2 ^ (7 * k)) (hs : X + c * 2 ^ (7 * k) < 18446744073709551616) :
    bits .or .u64 (X : Int) (IntKind.u64.wrap ((c : Int) * 2 ^ (7 * k))) = ((X + c * 2 ^ (7 * k) : Nat) : Int) := by
  have e : (c : Int) * 2 ^ (7 * k) = ((c * 2 ^ (7 * k) : Nat) : Int) := by
    rw [Int.natCast_mul, Int.natCast_pow]
    rfl
  have hw : IntKind.u64.wrap ((c * 2 ^ (7 * k) : Nat) : Int) = ((c * 2 ^ (7 * k) : Nat) : Int) := by
    rw [IntKind.wrap_u64]
    omega
  rw [e, hw]
  have h := bits_join_low .u64 64 (by decide) wraps_u64 (7 * k) (X : Int) ((c * 2 ^ (7 * k) : Nat) : Int) (by omega) (by
      have : ((2 ^ (7 * k) : Nat) : Int) = (2 : Int) ^ (7 * k) := by rw [Int.natCast_pow]; rfl
      rw [← this]
      omega) (by omega) (by omega) (by
      have : ((2 ^ (7 * k) : Nat) : Int) = (2 : Int) ^ (7 * k) := by rw [Int.natCast_pow]; rfl
      rw [← this]
      rw [← Int.natCast_emod]
      simp) (by omega)
  rw [h]
  omega
/-- A number that still has 128 or more to tell is not at its tenth byte. -/
theorem more_room (X y k x : Nat) (hk : k ≤ 9) (hy : 128 ≤ y) (hx : x = X + y * 2 ^ (7 * k)) (h64 : x < 18446744073709551616) : k + 1 ≤ 9 := by
  by_cases h : k = 9
  · subst h
    have : (2 : Nat) ^ (7 * 9) = 9223372036854775808 := by decide
    rw [this] at hx
    omega
  · omega
theorem last_small (X y x : Nat) (hx : x = X + y * 2 ^ (7 * 9)) (h64 : x < 18446744073709551616) : y ≤ 1 := by
  have : (2 : Nat) ^ (7 * 9) = 9223372036854775808 := by decide
  rw [this] at hx
  omega
theorem next_sum (X y k : Nat) : X + y * 2 ^ (7 * k) = (X + y % 128 * 2 ^ (7 * k)) + y / 128 * 2 ^ (7 * (k + 1)) := by
  rw [pow7, Nat.add_assoc]
  congr 1
  have h := Nat.div_add_mod y 128
  calc y * 2 ^ (7 * k) = (128 * (y / 128) + y % 128) * 2 ^ (7 * k) := by rw [h]
    _ = y % 128 * 2 ^ (7 * k) + y / 128 * (128 * 2 ^ (7 * k)) := by
      rw [Nat.add_mul, Nat.add_comm]
      congr 1
      rw [Nat.mul_comm 128, Nat.mul_assoc]
theorem next_lt (X y k : Nat) (hX : X < 2 ^ (7 * k)) : X + y % 128 * 2 ^ (7 * k) < 2 ^ (7 * (k + 1)) := by
  rw [pow7]
  have h : y % 128 * 2 ^ (7 * k) ≤ 127 * 2 ^ (7 * k) := Nat.mul_le_mul_right _ (by omega)
  omega

set_option maxHeartbeats 1000000 in
set_option maxRecDepth 100000 in
theorem uvarint21 (g o len cap x : Nat) (l rest : List UInt8) (w : World) (hl : l.length = len) (hlx : l = Lib.uvarint x ++ rest) (hx : x < 18446744073709551616) (_hlen : len ≤ 1000)
    (hcell : ∀ j (hj : j < l.length), w.cell? ⟨g, o + j, none⟩ = some (.int .u8 (l[j].toNat : Int))) :
    Calls Ybaf.prog 21 #[.slice (some ⟨g, o, none⟩) len cap] w fun e w' => e = .returned (.tuple #[.int .u64 x, .int .i64 ((Lib.uvarint x).length : Int)]) ∧ w' = w := by
  go_enter Ybaf.func21, Ybaf.ntmps21
  go_wp2
  go_loop [4, 5, 10] (fun a s i => ∃ k X y : Nat, i = .int .i64 k ∧ s = .int .u64 (7 * k : Nat) ∧ a = .int .u64 X ∧ k ≤ 9 ∧ X < 2 ^ (7 * k) ∧ l.drop k = Lib.uvarint y ++ rest ∧ x = X + y * 2 ^ (7 * k) ∧ k + (Lib.uvarint y).length = (Lib.uvarint x).length) (fun _ _ i => len - (intOf i).toNat)
  case atStart => exact ⟨0, 0, x, rfl, rfl, rfl, by omega, by simp, by rw [List.drop_zero]; exact hlx, by simp, by simp⟩
  case round =>
    obtain ⟨k, X, y, rfl, rfl, rfl, hk, hX, hd1, hxs, hlen1⟩ := hrel
    have hp := Lib.uvarint_pos y
    have hkl : k < len := by
      have := congrArg List.length hd1
      rw [List.length_drop, List.length_append] at this
      omega
    have hcv : l.drop k = l[k]'(by omega) :: l.drop (k + 1) := List.drop_eq_getElem_cons (by omega)
    have hc := hcell k (by omega)
    have HX := hd hX
    have HS := hd hxs
    have HN := hd hlen1
    by_cases hy : y < 128
    · have hb : (l[k]'(by omega)) = y.toUInt8 := by
        rw [hcv, Lib.uvarint_small hy] at hd1
        simpa using (List.cons.inj hd1).1
      have hbn : ((l[k]'(by omega)).toNat : Int) = (y : Int) := by rw [hb]; exact (low_byte y hy).symm
      rw [hbn] at hc
      have HJ := hd (join7 X y k hX (by omega))
      have HL : Hid ((k : Int) + 1 = ((Lib.uvarint x).length : Int)) := by rw [← hlen1, Lib.uvarint_small hy]; simp [Hid]
      clear hb hbn hcv hd1 hcell hxs hX hlen1
      have fin : Ending.returned (.tuple #[.int .u64 (bits .or .u64 (X : Int) (IntKind.u64.wrap ((y : Int) * 2 ^ (7 * k)))), .int .i64 ((k : Int) + 1)]) = .returned (.tuple #[.int .u64 (x : Int), .int .i64 ((Lib.uvarint x).length : Int)]) := by
        rw [HJ.out, HL.out, ← HS.out]
      have HF := hd fin
      clear fin
      by_cases h9 : k = 9
      · have h1 : y ≤ 1 := by
          have h := HS.out
          rw [h9] at h
          exact last_small X y x h hx
        have h9' : ((k : Int) == 9) = true := by rw [h9]; rfl
        have hk' : (9 : Int) ≤ (k : Int) := by omega
        clear h9
        go_wp2
        go_ret2
        exact ⟨HF.out, rfl⟩
      · have h9' : ((k : Int) == 9) = false := by simp; omega
        go_wp2
        go_ret2
        exact ⟨HF.out, rfl⟩
    · have hb : (l[k]'(by omega)) = (y % 128 + 128).toUInt8 ∧ l.drop (k + 1) = Lib.uvarint (y / 128) ++ rest := by
        rw [hcv, Lib.uvarint_big (by omega)] at hd1
        exact List.cons.inj hd1
      have hbn : ((l[k]'(by omega)).toNat : Int) = ((y % 128 + 128 : Nat) : Int) := by
        rw [hb.1, UInt8.toNat_ofNat']
        omega
      rw [hbn] at hc
      have HD := hd hb.2
      have h9 := more_room X y k x hk (by omega) hxs hx
      have hlast : X + y % 128 * 2 ^ (7 * k) < 18446744073709551616 := by
        have := next_sum X y k
        omega
      have HJ := hd (join7 X (y % 128) k hX hlast)
      have HL : Hid (k + 1 + (Lib.uvarint (y / 128)).length = (Lib.uvarint x).length) := by rw [← hlen1, Lib.uvarint_big (x := y) (by omega)]; simp [Hid]; omega
      have hmask : bits .and .u8 ((y % 128 + 128 : Nat) : Int) 127 = ((y % 128 : Nat) : Int) := by
        rw [u8_and127 _ (by omega) (by omega)]
        omega
      have hge : (128 : Int) ≤ ((y % 128 + 128 : Nat) : Int) := by omega
      have hle : ((y % 128 + 128 : Nat) : Int) ≤ 255 := by omega
      obtain ⟨c, hcc⟩ : ∃ c : Nat, c = y % 128 + 128 := ⟨_, rfl⟩
      rw [← hcc] at hc hmask hge hle
      obtain ⟨m, hm⟩ : ∃ m : Nat, m = y % 128 := ⟨_, rfl⟩
      have hm128 : m < 128 := by omega
      have HM := hd hm
      rw [← hm] at hmask HJ
      clear hcc hm hb hbn hcv hd1 hcell hxs hX hlen1 hlast
      have fin : Value.int .u64 (bits .or .u64 (X : Int) (IntKind.u64.wrap ((m : Int) * 2 ^ (7 * k)))) = .int .u64 ((X + m * 2 ^ (7 * k) : Nat) : Int) := by rw [HJ.out]
      have HF := hd fin
      clear fin
      go_wp2
      go_round
      case rel =>
        refine ⟨k + 1, X + m * 2 ^ (7 * k), y / 128, by go_num, by go_num, HF.out, h9, ?_, HD.out, ?_, HL.out⟩
        · rw [HM.out]; exact next_lt X y k HX.out
        · rw [HM.out, ← next_sum]; exact HS.out
      case measure => simp [intOf]; omega
end Go.Proofs.YbulkcateFmt
