/-
  THE CONTRACTS of '(Hybrid).AppendBinary' (function 5, the wall not negative) and '(Hybrid).MarshalBinary' (function 9).
-/
import Derived.Test.YbulkcateFmtUv
namespace Go.Proofs.YbulkcateFmt
open Go.ChangeShapes Go.WideShapes Go.ChangeAt Go.RowKit

theorem Grew.alloc {base : Nat} {v v1 : Value} {n : Nat} {xs : List Value} {l : List UInt8} {w wr : World} (h : Grew base v n xs l w wr v1) (o : Obj) : Grew base v n xs l w (wr.alloc o) v1 := by
  obtain ⟨a, b, c⟩ := h
  refine ⟨a.alloc o, ⟨b.os, b.tape, b.output, by rw [World.size_alloc]; have := b.size; omega, fun k hk hne => ?_⟩, c⟩
  rw [Below.heap_alloc _ _ _ (by have := b.size; omega), b.block k hk hne]

/-- A cell that the growing does not touch. -/
theorem Grew.cell {base : Nat} {v v1 : Value} {n : Nat} {xs : List Value} {l : List UInt8} {w wr : World} (h : Grew base v n xs l w wr v1) {a : Addr} (hlt : a.block < w.heap.size) (hne : v.ownBlock ≠ some a.block) : wr.cell? a = w.cell? a :=
  World.cell?_of_block (h.2.1.block _ hlt (fun e => hne e.symm))

/-- The bytes of a timestamp. -/
def tsBytes (wall c : Nat) : List UInt8 := 3 :: (Lib.uvarint wall ++ Lib.uvarint c)
theorem ts_length {wall c : Nat} (h1 : wall < 18446744073709551616) (h2 : c < 18446744073709551616) : (tsBytes wall c).length ≤ 21 := by
  have a := Lib.uvarint_length64 h1
  have b := Lib.uvarint_length64 h2
  simp [tsBytes]
  omega

set_option maxHeartbeats 1000000 in
set_option maxRecDepth 100000 in
theorem append5 (base n wall c : Nat) (v : Value) (xs : List Value) (w : World) (hown : w.ownsRow base 5 1 v n xs) (hb : base ≤ w.heap.size) (hn : n ≤ 90000) (hw : wall < 9223372036854775808) (hc : c < 4294967296) :
    Calls Ybaf.prog 5 #[.agg #[.int .i64 wall, .int .u32 c], v] w fun e w' => ∃ g cap, e = .returned (.tuple #[.slice (some ⟨g, 0, none⟩) (n + (tsBytes wall c).length) cap, .nilIface]) ∧ Grew base v n xs (tsBytes wall c) w w' (.slice (some ⟨g, 0, none⟩) (n + (tsBytes wall c).length) cap) := by
  obtain ⟨i0, hi0, hz0, hz1, hz2⟩ := info_parts Ybaf.info5
  have hvb : v.ownBlock ≠ some w.heap.size := fun e => by have := hown.lt _ e; omega
  have HG0 := hd ((Grew.refl hown).alloc (.cells #[.int .i64 wall, .int .u32 c] 25))
  have hL1 := Lib.uvarint_length64 (x := wall) (by omega)
  have HV := hd hvb
  have HOWN := hd hown
  clear hown hvb
  go_enter Ybaf.func5, Ybaf.ntmps5
  go_wp2_with (at_builtin; refine wpList_append_lies _ rfl _ _ 22 rfl base 5 i0 (.int .u8 0) 1 1 Ybaf.underlying22 hi0 hz0 hz1 hz2 rfl (by decide) v n xs rfl ((HOWN.out.alloc _).alloc _) ⟨w.heap.size + 1, 0, none⟩ 1 1 [.int .u8 3] rfl rfl (World.news_of_block (cs := #[.int .u8 3]) (t := 5) (fr := (0, 0)) (by have := heap_alloc_new (w.alloc (.cells #[.int .i64 wall, .int .u32 c] 25)) (.cells #[.int .u8 3] 5); rw [World.size_alloc] at this; exact this)) (by simp [Value.oneCell']) (by omega) (by unfold maxLen; omega) (by omega) (by simp; omega) (w.heap.size + 1 + 1) (by simp) ?_; intro g cap w1 hown1 hgrow hat hlt; refine Hid.out ?_)
  refine hd ?_
  have G1 : Grew base v n xs [3] w w1 (.slice (some ⟨g, 0, none⟩) (n + 1) cap) := by
    have := HG0.out.step (v2 := .slice (some ⟨g, 0, none⟩) (n + 1) cap) 3 (by simpa [bc] using hown1) hgrow (by
      rcases hat with hat | hat
      · exact .inl (by rw [hat]; rfl)
      · exact .inr (by rw [hat, World.size_alloc]; rfl))
    simpa using this
  have cw : w1.cell? ⟨w.heap.size, 0, none⟩ = some (.int .i64 wall) := by
    rw [hgrow.cell_far _ (by simp; omega) (Ne.symm HV.out)]
    simp
  have cc : w1.cell? ⟨w.heap.size, 1, none⟩ = some (.int .u32 c) := by
    rw [hgrow.cell_far _ (by simp; omega) (Ne.symm HV.out)]
    simp
  have hz1 : w.heap.size < w1.heap.size := World.block_lt_of_cell? _ _ cw
  have H1 := hd G1
  have HAT := hd hat
  have HCC := hd cc
  clear G1 hown1 hgrow hat cc
  go_wp2_with fail
  refine (append12 base (n + 1) wall _ _ _ H1.out.1 (by omega) (by omega) (by omega)).mono ?_
  rintro e w2 ⟨g2, cap2, rfl, G2⟩
  have H2 := hd (H1.out.join G2)
  have hne : Value.ownBlock (.slice (some ⟨g, 0, none⟩) (n + 1) cap) ≠ some w.heap.size := by
    have hgv : g ≠ w.heap.size := by
      rcases HAT.out with h | h
      · intro e; rw [e] at h; exact HV.out h
      · omega
    intro e
    exact hgv (by simpa [Value.ownBlock] using e)
  have cc2 : w2.cell? ⟨w.heap.size, 1, none⟩ = some (.int .u32 c) := (G2.cell hz1 hne).trans HCC.out
  have hz2' : w.heap.size ≤ w2.heap.size := H2.out.2.1.size
  clear G2 cw hne
  have HL : Hid ([3] ++ Lib.uvarint wall ++ Lib.uvarint c = tsBytes wall c) := by simp [tsBytes, Hid]
  go_wp2_with fail
  refine (append12 base _ c _ _ _ H2.out.1 (by omega) (by simp; omega) (by omega)).mono ?_
  rintro e w3 ⟨g3, cap3, rfl, G3⟩
  have H3 := hd (H2.out.join G3)
  clear G3 cc2
  go_wp2
  go_ret2
  have h3 := H3.out
  have el : n + ([3] ++ Lib.uvarint wall).length + (Lib.uvarint c).length = n + (tsBytes wall c).length := by simp [tsBytes]; omega
  rw [HL.out, el] at h3
  refine ⟨g3, cap3, ?_, h3⟩
  rw [← el]
  rfl

set_option maxHeartbeats 1000000 in
set_option maxRecDepth 100000 in
theorem marshal_any (wall c : Nat) (w : World) (hw : wall < 9223372036854775808) (hc : c < 4294967296) :
    Calls Ybaf.prog 9 #[.agg #[.int .i64 wall, .int .u32 c]] w fun e w' => ∃ g cap, e = .returned (.tuple #[.slice (some ⟨g, 0, none⟩) (tsBytes wall c).length cap, .nilIface]) ∧
      w'.ownsRow w.heap.size 5 1 (.slice (some ⟨g, 0, none⟩) (tsBytes wall c).length cap) (tsBytes wall c).length (bc (tsBytes wall c)) ∧ Below w.heap.size w w' := by
  go_enter Ybaf.func9, Ybaf.ntmps9
  go_wp2_with fail
  refine (append5 w.heap.size 0 wall c (.slice none 0 0) [] _ (World.ownsRow_nil _ _ _ _) (by simp) (by omega) hw hc).mono ?_
  rintro e w1 ⟨g, cap, rfl, G⟩
  obtain ⟨h1, h2, _⟩ := G
  rw [Nat.zero_add, List.nil_append] at h1
  have HB := hd (((Below.refl w.heap.size w).alloc (Nat.le_refl _) _).grown h2 (by simp) (fun k hk => by cases hk))
  have HO := hd h1
  clear h1 h2
  go_wp2
  go_ret2
  exact ⟨g, cap, by rw [← Nat.zero_add (tsBytes wall c).length]; rfl, HO.out, HB.out⟩
end Go.Proofs.YbulkcateFmt
