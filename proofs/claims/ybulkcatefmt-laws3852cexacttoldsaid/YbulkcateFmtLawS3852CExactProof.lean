/-
  PROVED: 'Rows.LawS3852CExactToldSaid'. The card is told and tied. The walk: YbulkcateFmtExB's 'exact_any', for every answer of fmt's; of fmt's text nothing is used.
-/
import Derived.Test.YbulkcateFmtLaid
import Derived.Test.YbulkcateFmtExB
namespace Go.Proofs.YbulkcateFmt
open Go.ChangeShapes Go.WideShapes Go.ChangeAt Go.RowKit Go.Kit
open Go.Extern.Stop Go.Stop Go.Extern

theorem exact_long (a0 : Option Addr) (len cap : Nat) (wall c : Int) (w : World) (h1 : 1024 < (len : Int)) (_h2 : len ≤ 9223372036854775807) :
    Calls Ybaf.prog 3 #[.slice a0 len cap, .int .i64 wall, .int .u32 c] w fun e w' => e = .returned (.bool true) ∧ Below w.heap.size w w' := by
  go_enter Ybaf.func3, Ybaf.ntmps3
  go_wp2
  go_ret
  exact ⟨rfl, Below.refl _ _⟩

/-- Numbers that fit a byte, as bytes. -/
theorem bytes_of (zs : List Int) (h : ∀ n ∈ zs, (Lit.int .u8 n).wf = true) : bc (zs.map fun n => UInt8.ofNat n.toNat) = zs.map (Value.int .u8) := by
  unfold bc
  rw [List.map_map]
  apply List.map_congr_left
  intro n hn
  have := bounds_u8 (h n hn)
  simp only [Function.comp]
  rw [UInt8.toNat_ofNat']
  congr 1
  omega

theorem arg_of (w : World) (a0 : Option Addr) (len cap : Nat) (zs : List Int)
    (h : (a0 = none ∧ len = 0 ∧ cap = 0 ∧ zs = []) ∨ ∃ x, a0 = some x ∧ len ≤ cap ∧ cap ≤ maxLen ∧ zs.length = cap ∧ (∀ i, i < zs.length → w.cell? (x.add i) = some (.int .u8 (zs.getD i 0))) ∧ ∀ n ∈ zs, (Lit.int .u8 n).wf = true) :
    ArgB w a0 len cap ((zs.take len).map fun n => UInt8.ofNat n.toNat) := by
  rcases h with ⟨rfl, rfl, rfl, rfl⟩ | ⟨x, rfl, hl, hm, hz, hc, hw⟩
  · exact ⟨rfl, fun _ => ⟨rfl, rfl⟩, fun ad ha => by cases ha⟩
  · refine ⟨by simp; omega, fun e => (by cases e), fun ad ha j u hu => ?_⟩
    obtain rfl := Option.some.inj ha
    rw [bytes_of _ (fun n hn => hw n (List.mem_of_mem_take hn))] at hu
    obtain ⟨hj, hu'⟩ := List.getElem?_eq_some_iff.1 hu
    rw [List.length_map, List.length_take] at hj
    rw [hc j (by omega), ← hu']
    simp [show j < zs.length by omega]

set_option maxRecDepth 100000 in
set_option maxHeartbeats 1600000 in
theorem ex_lifted (os : Os) (started : os.Started) (H : Type) (enc : TypeId × Value → H) :
    ReturnsInTold none {} Ybaf.checked os 3 .any Input.okWide ((OpenSpec.ofChange Rows.lawS3852CExactSpec).preRow enc Ybaf.prog Ybaf.f3 [] false Rows.lawS3852CExactRow.laid)
      (fun F => ((OpenSpec.ofChange Rows.lawS3852CExactSpec).at F).post enc Ybaf.prog Ybaf.f3 false true false false) (aloneAtReturn Ybaf.prog) nothingAlways := by
  refine returnsInTold_of_row (C := Ybaf.checked) (s := OpenSpec.ofChange Rows.lawS3852CExactSpec) (by kernel_rfl) Ybaf.own started (by kernel_rfl) Ybaf.func3
    (OpenSpec.witness_stopped_at (enc := enc) (C := Ybaf.checked) false (laidWorldOf Ybaf.prog os) #[.slice none 0 0, .int .i64 0, .int .u32 0] rfl (by kernel_rfl) (by kernel_rfl) (by kernel_rfl)
      (OpenSpec.preRow_of_B rfl 8 (by kernel_rfl) (by kernel_rfl) (laid_metEx os _))) ?_
  intro F W base0 args ds gs before _ hF hval0 hW _ _ _ hL _
  have hval : ∀ (j : Nat) t v, Ybaf.f3.params[j]? = some t → args[j]? = some v → Value.okWide Ybaf.prog W .any base0 t v := hval0
  have hW' := hW
  obtain ⟨p, q, hA0, hV0, rfl, hfz, hnd⟩ := hW
  have hA : DataW.TrodAll enc Ybaf.prog W 0 (fun _ => true) true Ybaf.f3.params.toList args.toList ds p := hA0
  have hV : DataW.TrodVars enc Ybaf.prog W (fun _ => true) [nmN] gs q := hV0
  rw [Ybaf.params3] at hA hval
  obtain ⟨v0, v1, v2, d0, d1, d2, p0, p1, p2, rfl, rfl, rfl, h0, h1, h2⟩ := trodAll_three hA
  obtain ⟨a0, len0, cap0, rfl⟩ := okWide_slice Ybaf.underlying22 (hval 0 22 v0 rfl rfl)
  have k0 := h0
  have lt0 : ∀ x ∈ p0, x.block < W.heap.size := by obtain ⟨m, hm⟩ := k0; exact DataW.trod_lt m _ _ _ hm
  obtain ⟨zs, hrow⟩ : ∃ zs : List Int, (a0 = none ∧ len0 = 0 ∧ cap0 = 0 ∧ zs = []) ∨ ∃ x, a0 = some x ∧ len0 ≤ cap0 ∧ cap0 ≤ maxLen ∧ zs.length = cap0 ∧ (∀ i, i < zs.length → W.cell? (x.add i) = some (.int .u8 (zs.getD i 0))) ∧ ∀ n ∈ zs, (Lit.int .u8 n).wf = true := by
    obtain ⟨fuel, hf⟩ := h0
    rcases open_ints Ybaf.underlying22 Ybaf.underlying5 (by kernel_rfl) hf with ⟨hcs, _⟩ | ⟨x, l, c, zs, hcs, _, hl, hm, hz, _, hcell, hwz⟩
    · simp [Value.cells] at hcs
      obtain ⟨rfl, rfl, rfl⟩ := hcs
      exact ⟨[], .inl ⟨rfl, rfl, rfl, rfl⟩⟩
    · simp [Value.cells] at hcs
      obtain ⟨rfl, rfl, rfl⟩ := hcs
      exact ⟨zs, .inr ⟨_, rfl, hl, hm, by simpa using hz, hcell, hwz⟩⟩
  obtain ⟨a1, rfl, rfl, rfl, w1⟩ := open_int Ybaf.underlying2 (hval 1 2 v1 rfl rfl) h1
  obtain ⟨a2, rfl, rfl, rfl, w2⟩ := open_int Ybaf.underlying23 (hval 2 23 v2 rfl rfl) h2
  have hL' : laidMet Ybaf.prog [(nmN, .iface starName (.ptr (.agg [.lit (.string [110, 101, 103, 97, 116, 105, 118, 101, 32, 119, 97, 108, 108])])))] W := hL
  obtain ⟨sa, ss, hv1, hc1, hs1, hz1⟩ := laid_sentinel hL' Ybaf.gN Ybaf.gNType Ybaf.underlying27 Ybaf.row66 Ybaf.underlying66 Ybaf.underlying68 rfl rfl Ybaf.underlying9 Ybaf.cells68 Ybaf.cells9
  obtain ⟨rfl, rfl⟩ := hV.unique (vars_read1 enc Ybaf.gN Ybaf.gNType Ybaf.underlying27 hv1 trivial _)
  clear hA0 hV0 hval0
  have hg1 : W.cell? ⟨0, 0, none⟩ = some (.iface 66 (.pointer (some sa))) := by simpa using World.var?_cell Ybaf.gN hv1 0
  have l0 : 0 < W.heap.size := World.block_lt_of_cell? _ _ hg1
  have b1 := bounds_i64 w1
  have b2 := bounds_u32 w2
  have hmax : len0 ≤ 9223372036854775807 := by
    rcases hrow with ⟨_, h, _, _⟩ | ⟨x, _, hl, hm, _⟩
    · omega
    · unfold maxLen at hm; omega
  have key : Calls Ybaf.prog 3 #[.slice a0 len0 cap0, .int .i64 a1, .int .u32 a2] W fun e w' => e = .returned (.bool true) ∧ Below W.heap.size W w' := by
    by_cases hbig : 1024 < (len0 : Int)
    · exact exact_long a0 len0 cap0 a1 a2 W hbig hmax
    · obtain ⟨c, hcc⟩ := Int.eq_ofNat_of_zero_le b2.1
      subst hcc
      exact exact_any F.told a0 len0 cap0 _ a1 c sa ss W hF (by omega) (arg_of W a0 len0 cap0 zs hrow) (by omega) (by omega) (by omega) hg1 hc1
  refine key.mono fun e W' ⟨he, bel⟩ => ?_
  subst he
  simp only [List.append_nil] at hW'
  refine ⟨_, rfl, _, _, _, [], p0, [.cell 0 0], hW', ?_, ?_, ?_, bel.frame _, fun h => by cases h⟩
  · exact trodAll_mk1 (shut_bool Ybaf.underlying4 _)
  · have t := trodAll_mk3 (Below.trod Ybaf.laidOut (by kernel_rfl) (of_decide_eq_true (by kernel_rfl)) k0 bel lt0) (shut_int (enc := enc) (w := W') (base := 0) (spare := fun b => decide (b < W.heap.size)) (held := true) Ybaf.underlying2 w1) (shut_int Ybaf.underlying23 w2)
    simp only [List.append_nil] at t
    exact t
  · exact vars_read1 enc Ybaf.gN Ybaf.gNType Ybaf.underlying27 (var?_below bel Ybaf.gN l0 hv1) trivial _

theorem lawS3852CExactProved : Rows.LawS3852CExactToldSaid :=
  Claim7.holds_of_told_tied_any_at .later 3 Ybaf.f3 "fmt.errorf" [] [] _ _ _ _ _ (by kernel_rfl) rfl rfl rfl Ybaf.laidOut (by kernel_rfl) rfl ⟨rfl, rfl, rfl, rfl, rfl, rfl, rfl⟩ rfl rfl (by kernel_rfl) (by kernel_rfl) Ybaf.func3 (by kernel_rfl)
    (of_decide_eq_true (by kernel_rfl)) (of_decide_eq_true (by kernel_rfl)) Ybaf.stops.symm rfl Ybaf.stopKnobs.symm (by kernel_rfl)
    (by kernel_rfl) (by kernel_rfl) (by kernel_rfl) (by kernel_rfl) (by kernel_rfl) (by kernel_rfl) (by kernel_rfl) (by kernel_rfl) (by kernel_rfl) rfl (by kernel_rfl) rfl rfl
    rfl rfl
    rfl (by kernel_rfl) (by kernel_rfl) (by kernel_rfl) (by decide) (by kernel_rfl) lawS3852CExact_row_tie
    (OpenClaim.moreEntering_of (by kernel_rfl) (by kernel_rfl) (by kernel_rfl) (by kernel_rfl) (by kernel_rfl) (by kernel_rfl) (by kernel_rfl) (by kernel_rfl) (by kernel_rfl) (by kernel_rfl))
    ⟨_, WideRow.started_initial, Ybaf.quiet _⟩
    (fun os started _ H enc _ => ex_lifted os started H enc)
end Go.Proofs.YbulkcateFmt
