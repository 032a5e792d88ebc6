/-
  PROVED: 'Rows.LawS3853BZeroesSaid'. The frame is the seat's shell, turned to a slice of byte slices, a slice of byte pairs and an integer; the walk is YbulkcatsWalkZ's 'zeroes_any'.
-/
import Derived.Test.YbulkcatsRows
import Derived.Test.YbulkcatsWalkZ
import Derived.WalkKit
import Derived.ProofKit
import Derived.OpenShut
import Derived.ChangeOld
import Derived.Below
import Derived.Deep.Matrix
import Derived.Deep.Slices
namespace Go.Proofs.Ybulkcats.lawS3853BZeroes
open Go.ChangeShapes Go.WideShapes Go.ChangeAt Go.RowKit Go.Deep
set_option linter.unusedVariables false

theorem own : ownKnob Yba.prog.godebug = none := by kernel_rfl
theorem laidOut : laidOutB Yba.prog = true := by kernel_rfl
theorem cells31 : Yba.prog.cellsOf 31 = 2 := by kernel_rfl
theorem cells5 : Yba.prog.cellsOf 5 = 1 := by kernel_rfl

/-- A pair of bytes: its two cells. -/
theorem pair_cells {H : Type} {enc : TypeId × Value → H} {w : World} {base : Nat} {spare : Nat → Bool} {held : Bool} {fuel : Nat} {cs : List Value} {x : DataW H × List MemPlace} (h : DataW.trod enc Yba.prog w base spare held fuel 31 cs = some x) :
    ∃ p q, cs[0]? = some (.int .u8 p) ∧ cs[1]? = some (.int .u8 q) := by
  obtain ⟨xs, m, _, _, hl, hx, hat⟩ := DataW.trod_array Yba.underlying31 h
  rw [cells31] at hl
  have h0 := hat 0 (by omega)
  have h1 := hat 1 (by omega)
  rw [cells5] at h0 h1
  obtain ⟨x0, hx0⟩ : ∃ y, xs[0]? = some y := ⟨_, List.getElem?_eq_getElem (by omega)⟩
  obtain ⟨x1, hx1⟩ : ∃ y, xs[1]? = some y := ⟨_, List.getElem?_eq_getElem (by omega)⟩
  rw [hx0] at h0
  rw [hx1] at h1
  obtain ⟨p, hp, _, _⟩ := DataW.trod_int Yba.underlying5 h0
  obtain ⟨q, hq, _, _⟩ := DataW.trod_int Yba.underlying5 h1
  match cs, hl, hp, hq with
  | [a, b], _, hp, hq =>
    simp at hp hq
    exact ⟨p, q, by simp [hp], by simp [hq]⟩

set_option maxRecDepth 100000 in
theorem lifted (os : Os) (started : os.Started) (H : Type) (enc : TypeId × Value → H) :
    ReturnsInHanded {} Yba.checked os 5 .any (Rows.lawS3853BZeroesSpec.pre6 enc Yba.prog Yba.f5 Rows.lawS3853BZeroesRow.domain false) (Rows.lawS3853BZeroesSpec.post enc Yba.prog Yba.f5 false true false false) := by
  refine returnsInHanded_of_change (C := Yba.checked) own started (by kernel_rfl) Yba.func5
    (ChangeSpec.witness6 (enc := enc) (C := Yba.checked) false ⟨#[], #[.slice none 0 0, .slice none 0 0, .int .i64 0], []⟩ 8 (by kernel_rfl) (by kernel_rfl) (by kernel_rfl) (by kernel_rfl)) ?_
  intro W base args ds gs before hval0 hW hcnd _
  have hval : ∀ (j : Nat) t v, Yba.f5.params[j]? = some t → args[j]? = some v → Value.okWide Yba.prog W .any base t v := hval0
  have hW' := hW
  obtain ⟨p, q, hA0, hV, rfl, hfz, hnd⟩ := hW
  have hA : DataW.TrodAll enc Yba.prog W 0 (fun _ => true) true Yba.f5.params.toList args.toList ds p := hA0
  rw [Yba.params5] at hA hval
  obtain ⟨v0, v1, v2, d0, d1, d2, p0, p1, p2, rfl, rfl, rfl, h0, h1, h2⟩ := trodAll_three hA
  obtain ⟨rfl, rfl⟩ := trodVars_none hV
  obtain ⟨a0, n, c0, rfl⟩ := okWide_slice Yba.underlying27 (hval 0 27 v0 rfl rfl)
  obtain ⟨a1, n1, c1, rfl⟩ := okWide_slice Yba.underlying28 (hval 1 28 v1 rfl rfl)
  have k0 := h0
  have k1 := h1
  have lt0 : ∀ x ∈ p0, x.block < W.heap.size := by obtain ⟨m, hm⟩ := k0; exact DataW.trod_lt m _ _ _ hm
  have lt1 : ∀ x ∈ p1, x.block < W.heap.size := by obtain ⟨m, hm⟩ := k1; exact DataW.trod_lt m _ _ _ hm
  obtain ⟨A, L, C, Z, hn, hL, hK⟩ : ∃ (A : Nat → Option Addr) (L C : Nat → Nat) (Z : Nat → List Int), n ≤ maxLen ∧ (∀ i, i < n → L i ≤ maxLen) ∧ Kek W a0 n A L C Z := by
    obtain ⟨fuel, hf⟩ := h0
    rcases open_int_rows Yba.underlying27 Yba.underlying23 Yba.underlying5 (by kernel_rfl) cells5 hf with ⟨hcs, _⟩ | ⟨x, l, c, A, L, C, Z, hcs, _, hl, hm, _, hat⟩
    · simp [Value.cells] at hcs
      obtain ⟨rfl, rfl, rfl⟩ := hcs
      exact ⟨fun _ => none, fun _ => 0, fun _ => 0, fun _ => [], Nat.zero_le _, fun i hi => by omega, fun _ => rfl, fun i hi => by omega, fun i hi => by omega, fun i hi => by omega, fun i hi => by omega⟩
    · simp [Value.cells] at hcs
      obtain ⟨rfl, rfl, rfl⟩ := hcs
      refine ⟨A, L, C, fun i => (Z i).take (L i), by omega, fun i hi => ?_, ⟨?_, fun i hi => ?_, fun i hi ha => ?_, fun i hi => ?_, fun i hi ad ha j u hu => ?_⟩⟩
      · obtain ⟨_, h1, h2, _⟩ := hat i (by omega)
        omega
      · intro h; cases h
      · exact ⟨x, rfl, (hat i (by omega)).1⟩
      · obtain ⟨_, h1, _, _, _, h5, _⟩ := hat i (by omega)
        have := h5 ha
        omega
      · obtain ⟨_, h1, _, h3, _⟩ := hat i (by omega)
        rw [List.length_take]; omega
      · obtain ⟨_, h1, _, h3, _, _, h6⟩ := hat i (by omega)
        have hj : j < L i := by
          have := (List.getElem?_eq_some_iff.1 hu).1
          simp at this; omega
        rw [(h6 ad ha).2 j (by omega)]
        rw [← hu]
        have hz : j < (Z i).length := by omega
        simp [hj, hz]
  obtain ⟨hn1, hI⟩ : n1 ≤ maxLen ∧ Ids W a1 n1 := by
    obtain ⟨fuel, hf⟩ := h1
    rcases open_slice Yba.underlying28 hf with ⟨hcs, _⟩ | ⟨x, l, c, m, nn, D, Pl, hcs, _, hl, hm, hmm, _, hat⟩
    · simp [Value.cells] at hcs
      obtain ⟨rfl, rfl, rfl⟩ := hcs
      exact ⟨Nat.zero_le _, fun i hi => by omega⟩
    · simp [Value.cells] at hcs
      obtain ⟨rfl, rfl, rfl⟩ := hcs
      simp only [if_true] at hmm
      refine ⟨by omega, fun i hi => ?_⟩
      obtain ⟨cs', hc, ht⟩ := hat i (by omega)
      rw [cells31] at hc
      obtain ⟨_, hl2, hcell⟩ := World.cells?_some hc
      obtain ⟨p, q, hp, hq⟩ := pair_cells ht
      refine ⟨x, p, q, rfl, ?_, ?_⟩
      · have := hcell 0 (by omega)
        rw [hp, add_add, Nat.add_zero] at this
        exact this
      · rw [hcell 1 (by omega), hq]
  obtain ⟨nw, rfl, rfl, rfl, w2⟩ := open_int Yba.underlying3 (hval 2 3 v2 rfl rfl) h2
  clear hA0 hval0
  simp only [List.append_nil] at hW'
  refine (zeroes_any a0 n c0 A L C Z a1 n1 c1 nw W hn hL hn1 hK hI).mono fun e W' ⟨he, bel⟩ => ?_
  subst he
  refine ⟨_, rfl, _, _, _, [], p0 ++ p1, [], hW', trodAll_mk1 (shut_bool Yba.underlying4 _), ?_, rfl, bel.frame _, fun h => by cases h⟩
  have t := trodAll_mk3 (Below.trod laidOut (by kernel_rfl) (of_decide_eq_true (by kernel_rfl)) k0 bel lt0) (Below.trod laidOut (by kernel_rfl) (of_decide_eq_true (by kernel_rfl)) k1 bel lt1) (shut_int (enc := enc) (w := W') (base := 0) (spare := fun b => decide (b < W.heap.size)) (held := true) Yba.underlying3 w2)
  simp only [List.append_nil] at t
  exact t

theorem over : Rows.lawS3853BZeroesRow.holds Yba.pinned (OpenSpec.ofChange Rows.lawS3853BZeroesSpec) :=
  OpenClaim.holds_of_wide 5 Yba.f5 rfl rfl rfl rfl rfl rfl rfl ⟨rfl, rfl, rfl, rfl, rfl⟩ rfl rfl rfl rfl rfl (by kernel_rfl) Yba.func5 (by kernel_rfl)
    (of_decide_eq_true (by kernel_rfl)) (by unfold Func.isWrapper; first | (rw [if_pos (by decide +kernel)]; kernel_rfl) | (rw [if_neg (by decide +kernel)]; exact ⟨rfl, rfl⟩))
    (fun os started H enc _ => lifted os started H enc)

/-- ████ THE STATEMENT ████ -/
theorem proved : Rows.LawS3853BZeroesSaid :=
  over
end Go.Proofs.Ybulkcats.lawS3853BZeroes

namespace Go.Proofs.Ybulkcats
theorem lawS3853BZeroesProved : Rows.LawS3853BZeroesSaid := lawS3853BZeroes.proved
end Go.Proofs.Ybulkcats
