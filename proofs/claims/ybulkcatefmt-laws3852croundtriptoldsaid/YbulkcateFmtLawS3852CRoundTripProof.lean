/-
  PROVED: 'Rows.LawS3852CRoundTripToldSaid'. The card is told and tied; on this law's road fmt is never called. The walk: YbulkcateFmtUnm's 'roundTrip_any'.
-/
import Derived.Test.YbulkcateFmtLaid
import Derived.Test.YbulkcateFmtUnm
namespace Go.Proofs.YbulkcateFmt
open Go.ChangeShapes Go.WideShapes Go.ChangeAt Go.RowKit Go.Kit
open Go.Extern.Stop Go.Stop Go.Extern

set_option maxRecDepth 100000 in
set_option maxHeartbeats 1600000 in
theorem rt_lifted (os : Os) (started : os.Started) (H : Type) (enc : TypeId × Value → H) :
    ReturnsInTold none {} Ybaf.checked os 4 .any Input.okWide ((OpenSpec.ofChange Rows.lawS3852CRoundTripSpec).preRow enc Ybaf.prog Ybaf.f4 [] false Rows.lawS3852CRoundTripRow.laid)
      (fun F => ((OpenSpec.ofChange Rows.lawS3852CRoundTripSpec).at F).post enc Ybaf.prog Ybaf.f4 false true false false) (aloneAtReturn Ybaf.prog) nothingAlways := by
  refine returnsInTold_of_row (C := Ybaf.checked) (s := OpenSpec.ofChange Rows.lawS3852CRoundTripSpec) (by kernel_rfl) Ybaf.own started (by kernel_rfl) Ybaf.func4
    (OpenSpec.witness_stopped_at (enc := enc) (C := Ybaf.checked) false (laidWorldOf Ybaf.prog os) #[.int .i64 0, .int .u32 0] rfl (by kernel_rfl) (by kernel_rfl) (by kernel_rfl)
      (OpenSpec.preRow_of_B rfl 8 (by kernel_rfl) (by kernel_rfl) (laid_metRT os _))) ?_
  intro F W base0 args ds gs before _ hF hval0 hW _ _ _ hL _
  have hval : ∀ (j : Nat) t v, Ybaf.f4.params[j]? = some t → args[j]? = some v → Value.okWide Ybaf.prog W .any base0 t v := hval0
  have hW' := hW
  obtain ⟨p, q, hA0, hV0, rfl, hfz, hnd⟩ := hW
  have hA : DataW.TrodAll enc Ybaf.prog W 0 (fun _ => true) true Ybaf.f4.params.toList args.toList ds p := hA0
  have hV : DataW.TrodVars enc Ybaf.prog W (fun _ => true) [nmN, nmC] gs q := hV0
  rw [Ybaf.params4] at hA hval
  obtain ⟨v0, v1, d0, d1, p0, p1, rfl, rfl, rfl, h0, h1⟩ := trodAll_two hA
  obtain ⟨a0, rfl, rfl, rfl, w0⟩ := open_int Ybaf.underlying2 (hval 0 2 v0 rfl rfl) h0
  obtain ⟨a1, rfl, rfl, rfl, w1⟩ := open_int Ybaf.underlying23 (hval 1 23 v1 rfl rfl) h1
  obtain ⟨g0, t0, cs0, f0, e0, q0, g1, t1, cs1, f1, e1, q1, rfl, hg0, ht0, hv0, hr0, hg1, ht1, hv1, hr1, rfl⟩ := trodVars_two hV
  obtain rfl := Option.some.inj (Ybaf.gN.symm.trans hg0)
  obtain rfl := Option.some.inj (Ybaf.gC.symm.trans hg1)
  obtain rfl := Option.some.inj (Ybaf.gNType.symm.trans ht0)
  obtain rfl := Option.some.inj (Ybaf.gCType.symm.trans ht1)
  obtain ⟨x0, rfl, i0, rfl, rfl, c0⟩ := token_of Ybaf.gN Ybaf.underlying27 hv0 hr0
  obtain ⟨x1, rfl, i1, rfl, rfl, c1⟩ := token_of Ybaf.gC Ybaf.underlying27 hv1 hr1
  clear hA0 hV0 hval0
  have l0 : 0 < W.heap.size := World.block_lt_of_cell? _ _ c0
  have l1 : 1 < W.heap.size := World.block_lt_of_cell? _ _ c1
  have b0 := bounds_i64 w0
  have b1 := bounds_u32 w1
  refine (roundTrip_any a0 a1 W (by omega) (by omega) (by omega) (by omega)).mono fun e W' ⟨he, bel⟩ => ?_
  subst he
  refine ⟨_, rfl, _, _, _, [], [] ++ [], [.cell 0 0, .cell 1 0], hW', ?_, ?_, ?_, bel.frame _, fun h => by cases h⟩
  · exact trodAll_mk1 (shut_bool Ybaf.underlying4 _)
  · exact trodAll_mk2 (shut_int Ybaf.underlying2 w0) (shut_int Ybaf.underlying23 w1)
  · exact vars_read2 enc Ybaf.gN Ybaf.gNType Ybaf.underlying27 (var?_below bel Ybaf.gN l0 hv0) i0 Ybaf.gC Ybaf.gCType Ybaf.underlying27 (var?_below bel Ybaf.gC l1 hv1) i1 _

theorem lawS3852CRoundTripProved : Rows.LawS3852CRoundTripToldSaid :=
  Claim7.holds_of_told_tied_any_at .later 4 Ybaf.f4 "fmt.errorf" [] [] _ _ _ _ _ (by kernel_rfl) rfl rfl rfl Ybaf.laidOut (by kernel_rfl) rfl ⟨rfl, rfl, rfl, rfl, rfl, rfl, rfl⟩ rfl rfl (by kernel_rfl) (by kernel_rfl) Ybaf.func4 (by kernel_rfl)
    (of_decide_eq_true (by kernel_rfl)) (of_decide_eq_true (by kernel_rfl)) Ybaf.stops.symm rfl Ybaf.stopKnobs.symm (by kernel_rfl)
    (by kernel_rfl) (by kernel_rfl) (by kernel_rfl) (by kernel_rfl) (by kernel_rfl) (by kernel_rfl) (by kernel_rfl) (by kernel_rfl) (by kernel_rfl) rfl (by kernel_rfl) rfl rfl
    rfl rfl
    rfl (by kernel_rfl) (by kernel_rfl) (by kernel_rfl) (by decide) (by kernel_rfl) lawS3852CRoundTrip_row_tie
    (OpenClaim.moreEntering_of (by kernel_rfl) (by kernel_rfl) (by kernel_rfl) (by kernel_rfl) (by kernel_rfl) (by kernel_rfl) (by kernel_rfl) (by kernel_rfl) (by kernel_rfl) (by kernel_rfl))
    ⟨_, WideRow.started_initial, Ybaf.quiet _⟩
    (fun os started _ H enc _ => rt_lifted os started H enc)
end Go.Proofs.YbulkcateFmt
