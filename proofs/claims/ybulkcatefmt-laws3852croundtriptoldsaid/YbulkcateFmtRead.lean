/-
  THE CONTRACTS of the binaryReader's methods 'uvarint' (20), 'uvarintUpTo' (16), 'tag' (15), 'end' (17), where the bytes are as they should be.
-/
import Derived.Test.YbulkcateFmtDec
namespace Go.Proofs.YbulkcateFmt
open Go.ChangeShapes Go.WideShapes Go.ChangeAt Go.RowKit

/-- The last byte of a varint of two bytes or more is not nought. -/
theorem uv_last : ∀ (n x : Nat), x ≤ n → 128 ≤ x → ∀ b, (Lib.uvarint x)[(Lib.uvarint x).length - 1]? = some b → b.toNat ≠ 0 := by
  intro n
  induction n with
  | zero => intro x h1 h2; omega
  | succ n ih =>
    intro x h1 h2 b hb
    rw [Lib.uvarint_big h2] at hb
    have hp := Lib.uvarint_pos (x / 128)
    rw [List.length_cons, Nat.add_sub_cancel, show (Lib.uvarint (x / 128)).length = (Lib.uvarint (x / 128)).length - 1 + 1 by omega, List.getElem?_cons_succ] at hb
    by_cases h : 128 ≤ x / 128
    · exact ih (x / 128) (by omega) h b hb
    · rw [Lib.uvarint_small (by omega)] at hb
      simp at hb
      rw [← hb, UInt8.toNat_ofNat']
      omega

/-- What is known of a binaryReader in block rb: what it has still to read lies at ⟨g, o⟩, the bytes l. -/
structure Rd (w : World) (rb g o len cap : Nat) (l : List UInt8) : Prop where
  data : w.cell? ⟨rb, 0, none⟩ = some (.slice (some ⟨g, o, none⟩) len cap)
  err : w.cell? ⟨rb, 2, none⟩ = some .nilIface
  free : w.frozen? ⟨rb, 0, none⟩ = false
  ne : g ≠ rb
  length : l.length = len
  fits : len ≤ cap
  small : len ≤ 1000
  cells : ∀ j (hj : j < l.length), w.cell? ⟨g, o + j, none⟩ = some (.int .u8 (l[j].toNat : Int))

set_option maxHeartbeats 1000000 in
set_option maxRecDepth 100000 in
theorem uvarint20 (rb g o len cap x : Nat) (l rest : List UInt8) (w : World) (h : Rd w rb g o len cap l) (hlx : l = Lib.uvarint x ++ rest) (hx : x < 18446744073709551616) (_hcap : cap ≤ 9223372036854775807) :
    Calls Ybaf.prog 20 #[.pointer (some ⟨rb, 0, none⟩)] w fun e w' => e = .returned (.int .u64 x) ∧ ∃ A, (0 < rest.length → A = some ⟨g, o + (Lib.uvarint x).length, none⟩) ∧
      w' = w.setCell ⟨rb, 0, none⟩ (.slice A rest.length (cap - (Lib.uvarint x).length)) := by
  have hlen : len = (Lib.uvarint x).length + rest.length := by rw [← h.length, hlx, List.length_append]
  have hp := Lib.uvarint_pos x
  have hd0 := h.data
  have he0 := h.err
  have hf0 := h.free
  have hfit := h.fits
  have hsm := h.small
  have C := hd (uvarint21 g o len cap x l rest w h.length hlx hx h.small h.cells)
  have hlast : 1 < (Lib.uvarint x).length → ∃ b : UInt8, w.cell? ⟨g, o + ((Lib.uvarint x).length - 1), none⟩ = some (.int .u8 (b.toNat : Int)) ∧ (((b.toNat : Int)) == 0) = false := by
    intro h1
    have hj : (Lib.uvarint x).length - 1 < l.length := by rw [h.length]; omega
    refine ⟨_, h.cells _ hj, ?_⟩
    have h128 : 128 ≤ x := by
      by_cases hh : 128 ≤ x
      · exact hh
      · rw [Lib.uvarint_small (by omega)] at h1
        simp at h1
    have hb : (Lib.uvarint x)[(Lib.uvarint x).length - 1]? = some l[(Lib.uvarint x).length - 1] := by
      have h2 : l[(Lib.uvarint x).length - 1]? = some l[(Lib.uvarint x).length - 1] := List.getElem?_eq_getElem hj
      rw [← h2]
      conv => rhs; rw [hlx]
      rw [List.getElem?_append_left (by omega)]
    have := uv_last x x (Nat.le_refl _) h128 _ hb
    simp
    omega
  obtain ⟨L, hL⟩ : ∃ L, L = (Lib.uvarint x).length := ⟨_, rfl⟩
  rw [← hL] at hlast hlen hp C ⊢
  have HLEN := hd hlen
  have hLl : L ≤ len := by omega
  clear h hlx hL hlen
  have HER : Hid (len - L = rest.length) := by have := HLEN.out; show len - L = rest.length; omega
  by_cases h1 : 1 < L
  · obtain ⟨b, hb, hb0⟩ := hlast h1
    clear hlast
    go_enter Ybaf.func20, Ybaf.ntmps20
    go_wp2_with fail
    refine C.out.mono ?_
    rintro e w2 ⟨rfl, hw⟩
    subst w2
    go_wp2
    · go_ret
      have er := HER.out
      refine ⟨rfl, some ⟨g, o, none⟩, fun h => ?_, by rw [← er]⟩
      omega
    · go_ret
      exact ⟨rfl, _, fun _ => rfl, by rw [← HER.out]⟩
  · clear hlast
    go_enter Ybaf.func20, Ybaf.ntmps20
    go_wp2_with fail
    refine C.out.mono ?_
    rintro e w2 ⟨rfl, hw⟩
    subst w2
    go_wp2
    · go_ret
      have er := HER.out
      refine ⟨rfl, some ⟨g, o, none⟩, fun h => ?_, by rw [← er]⟩
      omega
    · go_ret
      exact ⟨rfl, _, fun _ => rfl, by rw [← HER.out]⟩

set_option maxHeartbeats 1000000 in
set_option maxRecDepth 100000 in
theorem upTo16 (rb g o len cap x lim : Nat) (l rest : List UInt8) (w : World) (h : Rd w rb g o len cap l) (hlx : l = Lib.uvarint x ++ rest) (hx : x ≤ lim) (hlim : lim < 18446744073709551616) (hcap : cap ≤ 9223372036854775807) :
    Calls Ybaf.prog 16 #[.pointer (some ⟨rb, 0, none⟩), .int .u64 lim] w fun e w' => e = .returned (.int .u64 x) ∧ ∃ A, (0 < rest.length → A = some ⟨g, o + (Lib.uvarint x).length, none⟩) ∧
      w' = w.setCell ⟨rb, 0, none⟩ (.slice A rest.length (cap - (Lib.uvarint x).length)) := by
  have C := hd (uvarint20 rb g o len cap x l rest w h hlx (by omega) hcap)
  clear h hlx hcap
  go_enter Ybaf.func16, Ybaf.ntmps16
  go_wp2_with fail
  refine C.out.mono ?_
  rintro e w2 ⟨rfl, A, hA, hw⟩
  have HA := hd hA
  have HW := hd hw
  clear hA hw
  go_wp2
  go_ret
  exact ⟨rfl, A, HA.out, HW.out⟩

set_option maxHeartbeats 1000000 in
set_option maxRecDepth 100000 in
theorem tag15 (rb g o len cap : Nat) (rest : List UInt8) (w : World) (h : Rd w rb g o len cap (3 :: rest)) (hr : 0 < rest.length) (_hcap : cap ≤ 9223372036854775807) :
    Calls Ybaf.prog 15 #[.pointer (some ⟨rb, 0, none⟩), .int .u8 3] w fun e w' => e = .returned (.tuple #[]) ∧ w' = w.setCell ⟨rb, 0, none⟩ (.slice (some ⟨g, o + 1, none⟩) rest.length (cap - 1)) := by
  have hlen : rest.length + 1 = len := by have := h.length; simpa using this
  have hc0 : w.cell? ⟨g, o, none⟩ = some (.int .u8 3) := h.cells 0 (by simp)
  have hd0 := h.data
  have he0 := h.err
  have hf0 := h.free
  have hfit := h.fits
  have hsm := h.small
  have HER : Hid (len - 1 = rest.length) := by show len - 1 = rest.length; omega
  have h2 : 2 ≤ len := by omega
  have h2' : ¬ cap = 1 := by omega
  have h0 : ((len : Int) == 0) = false := by simp; omega
  clear h hlen hr
  go_enter Ybaf.func15, Ybaf.ntmps15
  go_wp2
  go_end0
  exact ⟨rfl, by rw [← HER.out]⟩

set_option maxHeartbeats 1000000 in
set_option maxRecDepth 100000 in
theorem end17 (rb cap : Nat) (A : Option Addr) (w : World) (hd0 : w.cell? ⟨rb, 0, none⟩ = some (.slice A 0 cap)) (he0 : w.cell? ⟨rb, 2, none⟩ = some .nilIface) :
    Calls Ybaf.prog 17 #[.pointer (some ⟨rb, 0, none⟩)] w fun e w' => e = .returned .nilIface ∧ w' = w := by
  go_enter Ybaf.func17, Ybaf.ntmps17
  go_wp2
  go_ret
  exact ⟨rfl, rfl⟩
end Go.Proofs.YbulkcateFmt
