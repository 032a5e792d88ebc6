/-
  THE CONTRACT of '(*Hybrid).UnmarshalBinary' (function 10) at a timestamp's own bytes.
-/
import Derived.Test.YbulkcateFmtRead
import Derived.Test.YbulkcateFmtBin
namespace Go.Proofs.YbulkcateFmt
open Go.ChangeShapes Go.WideShapes Go.ChangeAt Go.RowKit

/-- What is left to read, behind 'r.data = r.data[n:]'. -/
theorem Rd.next {w : World} {rb g o len cap : Nat} {pre rest : List UInt8} (h : Rd w rb g o len cap (pre ++ rest)) {w' : World}
    (hw : w' = w.setCell ⟨rb, 0, none⟩ (.slice (some ⟨g, o + pre.length, none⟩) rest.length (cap - pre.length))) : Rd w' rb g (o + pre.length) rest.length (cap - pre.length) rest := by
  have hl := h.length
  rw [List.length_append] at hl
  have hlt : rb < w.heap.size := World.block_lt_of_cell? _ _ h.data
  have hk : w'.heap[g]? = w.heap[g]? := by rw [hw]; exact Below.heap_setCell _ _ _ _ h.ne
  refine ⟨?_, ?_, ?_, h.ne, rfl, by have := h.fits; omega, by have := h.small; omega, fun j hj => ?_⟩
  · rw [hw]
    exact World.cell?_setCell_same _ _ _ h.data
  · rw [hw, World.cell?_setCell_other _ _ _ _ (by simp)]
    exact h.err
  · rw [hw, World.frozen?_setCell]
    exact h.free
  · have := h.cells (pre.length + j) (by rw [List.length_append]; omega)
    rw [World.cell?_of_block (w := w) hk, Nat.add_assoc, this]
    simp


set_option maxHeartbeats 1000000 in
set_option maxRecDepth 100000 in
theorem unmarshal_any (hb g cap wall c : Nat) (u0 u1 : Value) (w : World) (hw : wall < 9223372036854775808) (hc : c < 4294967296) (hcap : cap ≤ 9223372036854775807) (hfit : (tsBytes wall c).length ≤ cap)
    (h0 : w.cell? ⟨hb, 0, none⟩ = some u0) (h1 : w.cell? ⟨hb, 1, none⟩ = some u1) (f0 : w.frozen? ⟨hb, 0, none⟩ = false) (f1 : w.frozen? ⟨hb, 1, none⟩ = false) (hg : g < w.heap.size)
    (hcells : ∀ j (hj : j < (tsBytes wall c).length), w.cell? ⟨g, j, none⟩ = some (.int .u8 ((tsBytes wall c)[j].toNat : Int))) :
    Calls Ybaf.prog 10 #[.pointer (some ⟨hb, 0, none⟩), .slice (some ⟨g, 0, none⟩) (tsBytes wall c).length cap] w fun e w' => e = .returned .nilIface ∧
      w'.cell? ⟨hb, 0, none⟩ = some (.int .i64 wall) ∧ w'.cell? ⟨hb, 1, none⟩ = some (.int .u32 c) ∧ Below hb w w' := by
  have hbl : hb < w.heap.size := World.block_lt_of_cell? _ _ h0
  have hL := ts_length (wall := wall) (c := c) (by omega) (by omega)
  have R0 : ∀ W : World, W = w.alloc (.cells #[.slice (some ⟨g, 0, none⟩) (tsBytes wall c).length cap, .string ⟨#[]⟩, .nilIface] 47) → Rd W w.heap.size g 0 (tsBytes wall c).length cap ([3] ++ (Lib.uvarint wall ++ Lib.uvarint c)) := by
    rintro W rfl
    refine ⟨by simp, by simp, by simp, by omega, rfl, hfit, by omega, fun j hj => ?_⟩
    rw [World.cell?_alloc_lt _ _ _ hg, Nat.zero_add]
    exact hcells j hj
  have HR := hd R0
  obtain ⟨n, hn⟩ : ∃ n, n = (tsBytes wall c).length := ⟨_, rfl⟩
  rw [← hn] at HR hL hfit ⊢
  have hn2 : 2 ≤ n := by
    have := Lib.uvarint_pos wall
    rw [hn]; simp [tsBytes]; omega
  have HN := hd hn
  clear hn R0 hcells
  go_enter Ybaf.func10, Ybaf.ntmps10
  go_wp2_with fail
  have r0 := HR.out _ rfl
  have hpos : 0 < (Lib.uvarint wall ++ Lib.uvarint c).length := by have := Lib.uvarint_pos wall; rw [List.length_append]; omega
  refine (tag15 w.heap.size g 0 n cap (Lib.uvarint wall ++ Lib.uvarint c) _ r0 hpos hcap).mono ?_
  rintro e w1 ⟨rfl, hw1⟩
  have r1 := r0.next (pre := [3]) hw1
  have K1 : Hid (∀ b, b ≠ w.heap.size → w1.heap[b]? = (w.alloc (.cells #[.slice (some ⟨g, 0, none⟩) n cap, .string ⟨#[]⟩, .nilIface] 47)).heap[b]?) := fun b hne => by rw [hw1]; exact Below.heap_setCell _ _ _ _ hne
  have Z1 : Hid (w1.heap.size = w.heap.size + 1 ∧ w1.os = w.os ∧ w1.tape = w.tape ∧ w1.output = w.output) := by rw [hw1]; exact ⟨by simp [World.setCell], rfl, rfl, rfl⟩
  have H1 := hd r1
  clear r0 r1 hw1 HR
  go_wp2_with fail
  have hpc : 0 < (Lib.uvarint c).length := Lib.uvarint_pos c
  refine (upTo16 w.heap.size g _ _ _ wall 9223372036854775807 _ (Lib.uvarint c) w1 H1.out rfl (by omega) (by omega) (by omega)).mono ?_
  rintro e w2 ⟨rfl, A2, hA2, hw2⟩
  have hA := hA2 hpc
  subst hA
  have r2 := H1.out.next hw2
  have K2 : Hid (∀ b, b ≠ w.heap.size → w2.heap[b]? = w1.heap[b]?) := fun b hne => by rw [hw2]; exact Below.heap_setCell _ _ _ _ hne
  have Z2 : Hid (w2.heap.size = w.heap.size + 1 ∧ w2.os = w.os ∧ w2.tape = w.tape ∧ w2.output = w.output) := by rw [hw2]; exact ⟨by simp [World.setCell]; exact Z1.out.1, Z1.out.2.1, Z1.out.2.2.1, Z1.out.2.2.2⟩
  have H2 := hd r2
  clear r2 hw2 hA2 H1
  go_wp2_with fail
  refine (upTo16 w.heap.size g _ _ _ c 4294967295 _ [] w2 H2.out (by simp) (by omega) (by omega) (by omega)).mono ?_
  rintro e w3 ⟨rfl, A3, -, hw3⟩
  have K3 : Hid (∀ b, b ≠ w.heap.size → w3.heap[b]? = w2.heap[b]?) := fun b hne => by rw [hw3]; exact Below.heap_setCell _ _ _ _ hne
  have Z3 : Hid (w3.heap.size = w.heap.size + 1 ∧ w3.os = w.os ∧ w3.tape = w.tape ∧ w3.output = w.output) := by rw [hw3]; exact ⟨by simp [World.setCell]; exact Z2.out.1, Z2.out.2.1, Z2.out.2.2.1, Z2.out.2.2.2⟩
  have d3 : w3.cell? ⟨w.heap.size, 0, none⟩ = some (.slice A3 0 (cap - [3].length - (Lib.uvarint wall).length - (Lib.uvarint c).length)) := by rw [hw3]; exact World.cell?_setCell_same _ _ _ H2.out.data
  have e3 : w3.cell? ⟨w.heap.size, 2, none⟩ = some .nilIface := by rw [hw3, World.cell?_setCell_other _ _ _ _ (by simp)]; exact H2.out.err
  have E := hd (end17 w.heap.size _ A3 w3 d3 e3)
  clear d3 e3 hw3 H2
  go_wp2_with fail
  refine E.out.mono ?_
  rintro e w4 ⟨rfl, hw4⟩
  subst w4
  have keep : ∀ b, b < w.heap.size → w3.heap[b]? = w.heap[b]? := fun b hlt => by
    rw [K3.out b (by omega), K2.out b (by omega), K1.out b (by omega), Below.heap_alloc _ _ _ hlt]
  have c0 : w3.cell? ⟨hb, 0, none⟩ = some u0 := (World.cell?_of_block (w := w) (keep hb hbl)).trans h0
  have c1 : w3.cell? ⟨hb, 1, none⟩ = some u1 := (World.cell?_of_block (w := w) (keep hb hbl)).trans h1
  have g0 : w3.frozen? ⟨hb, 0, none⟩ = false := (World.frozen?_of_block (w := w) (keep hb hbl)).trans f0
  have g1 : w3.frozen? ⟨hb, 1, none⟩ = false := (World.frozen?_of_block (w := w) (keep hb hbl)).trans f1
  have KP := hd keep
  clear keep K1 K2 K3 Z1 Z2 E h0 h1 f0 f1
  go_wp2
  go_ret
  obtain ⟨z1, z2, z3, z4⟩ := Z3.out
  have hB : Below hb w w3 := ⟨z2, z3, z4, by omega, fun k hk => KP.out k (by omega)⟩
  refine ⟨rfl, ?_, ?_, (hB.setCell (Nat.le_refl _) _).setCell (Nat.le_refl _) _⟩
  · rw [World.cell?_setCell_other _ _ _ _ (by simp)]
    exact World.cell?_setCell_same _ _ _ c0
  · exact World.cell?_setCell_same (u := u1) _ _ _ (by rw [World.cell?_setCell_other _ _ _ _ (by simp)]; exact c1)

/-- The bytes that 'MarshalBinary' laid, cell by cell. -/
theorem own_cells {w : World} {base g n cap : Nat} {l : List UInt8} (h : w.ownsRow base 5 1 (.slice (some ⟨g, 0, none⟩) n cap) n (bc l)) :
    ∀ j (hj : j < l.length), w.cell? ⟨g, j, none⟩ = some (.int .u8 (l[j].toNat : Int)) := by
  intro j hj
  have := h.cells (g := g) rfl j (.int .u8 (l[j].toNat : Int)) (by simp [bc, hj])
  rw [show (⟨g, 0, none⟩ : Addr).add j = ⟨g, j, none⟩ by unfold Addr.add; split <;> simp_all] at this
  exact this
theorem own_cap {w : World} {base g n cap : Nat} {xs : List Value} (h : w.ownsRow base 5 1 (.slice (some ⟨g, 0, none⟩) n cap) n xs) (hn : 0 < n) : n ≤ cap ∧ cap ≤ maxLen ∧ g < w.heap.size := by
  rcases h.2 with ⟨_, h0⟩ | ⟨g', cap', cur, hv, _, hh, hle, hm, _⟩
  · omega
  · simp at hv
    obtain ⟨rfl, rfl⟩ := hv
    exact ⟨hle, hm, (Array.getElem?_eq_some_iff.1 hh).1⟩

/-- '^x' on an int64. -/
theorem not64 (a : Int) (h1 : -9223372036854775808 ≤ a) (h2 : a < 9223372036854775808) : bits .xor .i64 (-1) a = -a - 1 := by
  show IntKind.i64.wrap ((BitVec.ofInt 64 (-1) ^^^ BitVec.ofInt 64 a).toNat : Int) = _
  have e : BitVec.ofInt 64 (-1) = BitVec.allOnes 64 := by decide
  rw [e, BitVec.allOnes_xor, BitVec.toNat_not, BitVec.toNat_ofInt, IntKind.wrap_i64]
  omega

set_option maxHeartbeats 1000000 in
set_option maxRecDepth 100000 in
theorem roundTrip_at (wall c : Nat) (w : World) (a0 : Int) (ha : a0 = wall ∨ (a0 < 0 ∧ bits .xor .i64 (-1) a0 = wall)) (hw : wall < 9223372036854775808) (hc : c < 4294967296) :
    Calls Ybaf.prog 4 #[.int .i64 a0, .int .u32 c] w fun e w' => e = .returned (.bool true) ∧ Below w.heap.size w w' := by
  rcases ha with rfl | ⟨hneg, hwe⟩
  all_goals
    go_enter Ybaf.func4, Ybaf.ntmps4
    go_wp2_with fail
    refine (marshal_any wall c _ hw hc).mono ?_
    rintro e w1 ⟨g, cap, rfl, hown, hbel⟩
    have hL := ts_length (wall := wall) (c := c) (by omega) (by omega)
    have hpos : 0 < (tsBytes wall c).length := by simp [tsBytes]
    obtain ⟨k1, k2, k3⟩ := own_cap hown hpos
    unfold maxLen at k2
    have hz : (w.alloc (.cells #[.int .i64 (wall : Int), .int .u32 (c : Int)] 25)).heap.size ≤ w1.heap.size := hbel.size
    rw [World.size_alloc] at hz
    have b0 : w1.cell? ⟨w.heap.size, 0, none⟩ = some (.int .i64 wall) := by
      rw [hbel.cell (p := ⟨w.heap.size, 0, none⟩) (by rw [World.size_alloc]; show w.heap.size < _; omega)]; simp
    have b1 : w1.cell? ⟨w.heap.size, 1, none⟩ = some (.int .u32 c) := by
      rw [hbel.cell (p := ⟨w.heap.size, 1, none⟩) (by rw [World.size_alloc]; show w.heap.size < _; omega)]; simp
    have HB := hd (((Below.refl w.heap.size w).alloc (Nat.le_refl _) _).trans (hbel.mono (by rw [World.size_alloc]; omega)))
    have HO := hd (own_cells hown)
    have H0 := hd b0
    have H1 := hd b1
    clear hown hbel b0 b1
    go_wp2_with fail
    refine (unmarshal_any w1.heap.size g cap wall c (.int .i64 7) (.int .u32 9) _ hw hc (by omega) k1 (by simp) (by simp) (by simp) (by simp) (by simp; omega) ?hcl).mono ?_
    case hcl =>
      intro j hj
      rw [World.cell?_alloc_lt _ _ _ k3]
      exact HO.out j hj
    rintro e w2 ⟨rfl, d0, d1, hb2⟩
    have HB2 := hd ((HB.out.alloc (by omega) _).trans (hb2.mono (by omega)))
    have e0 : w2.cell? ⟨w.heap.size, 0, none⟩ = some (.int .i64 wall) := by
      rw [hb2.cell (p := ⟨w.heap.size, 0, none⟩) (by show w.heap.size < w1.heap.size; omega), World.cell?_alloc_lt _ _ _ (by show w.heap.size < w1.heap.size; omega)]
      exact H0.out
    have e1 : w2.cell? ⟨w.heap.size, 1, none⟩ = some (.int .u32 c) := by
      rw [hb2.cell (p := ⟨w.heap.size, 1, none⟩) (by show w.heap.size < w1.heap.size; omega), World.cell?_alloc_lt _ _ _ (by show w.heap.size < w1.heap.size; omega)]
      exact H1.out
    clear hb2
    go_wp2
    go_ret
    exact ⟨rfl, HB2.out⟩

/-- THE WALK: for every int64 and every uint32. -/
theorem roundTrip_any (a0 a1 : Int) (w : World) (h1 : -9223372036854775808 ≤ a0) (h2 : a0 < 9223372036854775808) (h3 : 0 ≤ a1) (h4 : a1 < 4294967296) :
    Calls Ybaf.prog 4 #[.int .i64 a0, .int .u32 a1] w fun e w' => e = .returned (.bool true) ∧ Below w.heap.size w w' := by
  obtain ⟨c, rfl⟩ := Int.eq_ofNat_of_zero_le h3
  by_cases h : 0 ≤ a0
  · obtain ⟨n, rfl⟩ := Int.eq_ofNat_of_zero_le h
    exact roundTrip_at n c w _ (.inl rfl) (by omega) (by omega)
  · refine roundTrip_at (-a0 - 1).toNat c w a0 (.inr ⟨by omega, ?_⟩) (by omega) (by omega)
    rw [not64 a0 h1 h2]
    omega
end Go.Proofs.YbulkcateFmt
