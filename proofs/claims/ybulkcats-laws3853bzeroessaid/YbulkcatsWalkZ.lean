/-
  THE WALK of 'LawS3853BZeroes' (function 5).
-/
import Derived.Test.YbulkcatsDone
import Derived.Test.YbulkcatsEqual
import Derived.Deep.DeepCutAuto
namespace Go.Proofs.Ybulkcats
open Go.ChangeShapes Go.WideShapes Go.ChangeAt Go.RowKit Go.Deep

theorem ring_cell (w : World) (a b c : Value) : (w.alloc (.cells #[a, b, c] 40)).cell? ⟨w.heap.size, 1, none⟩ = some b := by
  have h := heap_alloc_new w (.cells #[a, b, c] 40)
  show (match (w.alloc (.cells #[a, b, c] 40)).heap[w.heap.size]? with | some (Obj.cells c _ _) => c[1]? | _ => none) = some b
  rw [h]
  rfl

theorem lens_next {L : Nat → Nat} {k : Nat} (h : ∀ i, i < k → L i ≤ 4096) (hk : L k ≤ 4096) : ∀ i, i < k + 1 → L i ≤ 4096 := fun i hi => by
  by_cases e : i = k
  · subst e; exact hk
  · exact h i (by omega)

set_option maxHeartbeats 4000000 in
set_option maxRecDepth 100000 in
theorem zeroes_any (a0 : Option Addr) (n c0 : Nat) (A : Nat → Option Addr) (L C : Nat → Nat) (Z : Nat → List Int) (a1 : Option Addr) (n1 c1 : Nat) (nw : Int) (w : World)
    (hn : n ≤ maxLen) (hL : ∀ i, i < n → L i ≤ maxLen) (hn1 : n1 ≤ maxLen) (hK : Kek w a0 n A L C Z) (hI : Ids w a1 n1) :
    Calls Yba.prog 5 #[.slice a0 n c0, .slice a1 n1 c1, .int .i64 nw] w fun e w' => e = .returned (.bool true) ∧ Below w.heap.size w w' := by
  have HK := hid hK
  have HI := hid hI
  have HL := hid hL
  clear hK hI hL
  unfold maxLen at hn hn1
  go_enter Yba.func5, Yba.ntmps5
  by_cases hbig : 1024 < n
  · go_wp2
    go_ret
    exact ⟨rfl, Below.refl _ _⟩
  · have hsm : n ≤ 1024 := by omega
    clear hbig hn
    go_wp2
    go_loopw [7] (fun i wr => ∃ k : Nat, k ≤ n ∧ i = .int .i64 k ∧ wr = w ∧ ∀ i, i < k → L i ≤ 4096) (fun i _ => n - (intOf i).toNat)
    case atStart => exact ⟨0, Nat.zero_le _, rfl, rfl, fun i hi => by omega⟩
    case round =>
      obtain ⟨k, hk, rfl, hwr, hle⟩ := hrel
      subst wr
      have HLE := hid hle
      clear hle
      by_cases hlt : k < n
      · obtain ⟨x, rfl, hx⟩ := HK.out.row k hlt
        have hlk := HL.out k hlt
        unfold maxLen at hlk
        by_cases hb : 4096 < L k
        · go_wp2
          go_ret
          exact ⟨rfl, Below.refl _ _⟩
        · go_wp2
          go_roundw
          case rel => exact ⟨k + 1, by omega, by go_num, trivial, lens_next HLE.out (by omega)⟩
          case measure => simp [intOf]; omega
      · have hkn : n = k := by omega
        subst hkn
        clear hlt hk
        go_upto_if 37 with (go_at_call 7; refine (wipe_nil _).mono ?_; rintro e w2 ⟨rfl, hw⟩; subst w2)
        go_cut [9] (fun v wx => ∃ ao g, v = .slice ao n n ∧ OwnEnd w wx a0 n A L g ao)
        case first =>
          cases a0 with
          | none =>
            go_wp2
            go_meet
            case rel =>
              obtain rfl := HK.out.nil rfl
              exact ⟨none, fun _ => 0, rfl, rfl, fun h => by omega, fun i hi => by omega, Below.refl _ _⟩
          | some x =>
            have hmk := run_make_row' (P := Yba.prog) 27 23 (.slice none 0 0) 24 Yba.underlying27 Yba.info23 rfl .i64 .i64 n (by omega) (by omega)
            go_wp2
            go_loopw [10] (fun i wr => ∃ k : Nat, k ≤ n ∧ i = .int .i64 k ∧ ∃ g, OwnInv w wr n A L g k) (fun i _ => n - (intOf i).toNat)
            case atStart => exact ⟨0, Nat.zero_le _, rfl, fun _ => 0, own_start w n A L _⟩
            case round =>
              obtain ⟨k, hk, rfl, g, hinv⟩ := hrel
              have HV := hid hinv
              clear hinv
              by_cases hlt : k < n
              · obtain ⟨y, hy, hx⟩ := (HK.out.on HV.out.below).row k hlt
                cases hy
                cases hA : A k with
                | none =>
                  rw [hA] at hx
                  have HN := hid (own_skip HV.out hA)
                  clear hA
                  go_wp2
                  go_roundw
                  case rel => exact ⟨k + 1, by omega, by go_num, g, HN.out⟩
                  case measure => simp [intOf]; omega
                | some ad =>
                  rw [hA] at hx
                  have hlk := HLE.out k hlt
                  have hmk2 := run_make_row' (P := Yba.prog) 23 5 (.int .u8 0) 1 Yba.underlying23 Yba.info5b rfl .i64 .i64 (L k) (by omega) (by omega)
                  obtain ⟨w2, hcp, hrow, hbel⟩ := copy_kek HK.out hlt ad hA wr HV.out.below
                  have hx1 : (wr.alloc (.cells (madeCells #[.int .u8 0] (L k)) 5)).cell? (x.add k) = some (.slice (some ad) (L k) (C k)) := (World.cell?_alloc_lt _ _ _ (World.block_lt_of_cell? _ _ hx)).trans hx
                  have HN := hid (own_next HV.out hlt (by rw [hA]; rfl) hrow hbel)
                  have hB2 := HV.out.row.of_block (hbel.block _ HV.out.row.lt)
                  have hc2 := hB2.cell hlt
                  have hf2 := hB2.frozen k
                  clear hA hrow hbel hB2
                  go_wp2
                  go_roundw
                  case rel => exact ⟨k + 1, by omega, by go_num, _, HN.out⟩
                  case measure => simp [intOf]; omega
              · have hkn : n = k := by omega
                subst hkn
                clear hlt hk
                go_wp2
                go_meet
                case rel => exact ⟨_, g, rfl, rfl, fun _ => ⟨rfl, HV.out.row⟩, HV.out.blk, HV.out.below⟩
        case rest =>
          obtain ⟨ao, g, rfl, hend⟩ := hcut
          have HE := hid hend
          clear hend
          obtain ⟨i0, hi0, hz0, hz1, hz2⟩ := info_parts Yba.info37
          have hmk : (Instr.makeSlice 30 (.int .i64 n) (.int .i64 n)).run Yba.prog wc = .ok (.slice (some ⟨wc.heap.size, 0, none⟩) n n) (wc.alloc (.cells (madeCells #[.int .u8 0, .int .u8 0, .int .u8 0, .int .u64 0, .int .i64 0, .pointer none] (n * 6)) 37)) := by
            have := run_make (P := Yba.prog) wc 30 37 i0 _ Yba.underlying30 hi0 hz0 .i64 .i64 n n (by omega) (by omega) (by rw [hz2]; omega) (by omega)
            rw [hz1] at this
            exact this
          clear hi0 hz0 hz1 hz2
          have HS := hid (key_start wc n)
          go_wp2
          go_loopw [13] (fun i wr => ∃ k : Nat, k ≤ n ∧ i = .int .i64 k ∧ KeyInv wc wr n) (fun i _ => n - (intOf i).toNat)
          case atStart => exact ⟨0, Nat.zero_le _, rfl, HS.out⟩
          case round =>
            clear hmk HS
            obtain ⟨k, hk, rfl, hinv⟩ := hrel
            have HV := hid hinv
            clear hinv
            by_cases hlt : k < n
            · have hb := HE.out.below.trans (HV.out.2.mono HE.out.below.size)
              by_cases hid1 : k < n1
              · obtain ⟨x, p, q, rfl, hp, hq⟩ := ids_on HI.out hb k hid1
                obtain ⟨⟨f, hr, hl⟩, hbk⟩ := HV.out
                clear hl
                have f0 := hr.frozen (k * 6)
                have f1 := (hr.set (k * 6) (.int .u8 p)).frozen (k * 6 + 1)
                have hq' : wr.cell? ⟨(x.add (k * 2)).block, (x.add (k * 2)).off + 1, none⟩ = some (.int .u8 q) := hq
                clear hq
                have f2 := ((hr.set (k * 6) (.int .u8 p)).set (k * 6 + 1) (.int .u8 q)).frozen (k * 6 + 2)
                have c0 := hr.cell (i := k * 6) (by omega)
                have c1 := (hr.set (k * 6) (.int .u8 p)).cell (i := k * 6 + 1) (by omega)
                have c2 := ((hr.set (k * 6) (.int .u8 p)).set (k * 6 + 1) (.int .u8 q)).cell (i := k * 6 + 2) (by omega)
                clear hr hbk hb
                go_wp2
                go_roundw
                case rel => exact ⟨k + 1, by omega, by go_num, key_state (key_id HV.out hlt p q) hlt _⟩
                case measure => simp [intOf]; omega
              · obtain ⟨⟨f, hr, hl⟩, hbk⟩ := HV.out
                have f2 := hr.frozen (k * 6 + 2)
                have c2 := hr.cell (i := k * 6 + 2) (by omega)
                clear hl hr hbk hb
                go_wp2
                go_roundw
                case rel => exact ⟨k + 1, by omega, by go_num, key_state HV.out hlt _⟩
                case measure => simp [intOf]; omega
            · have hkn : n = k := by omega
              subst hkn
              clear hlt hk
              obtain ⟨⟨f, hr, hl⟩, hbk⟩ := HV.out
              have HR := hid hr
              have HKL := hid hl
              have HBK := hid hbk
              clear hr hl hbk
              go_wp2_with (go_at_call 8; refine (clone8 _ _ _ _ hsm HR.out HKL.out).mono ?_; rintro e w2 ⟨cl, cap, rfl, hcl, hb2⟩)
              have HCL := hid hcl
              have HB2 := hid hb2
              clear hcl hb2
              have HRD := hid (ready HE.out HBK.out HB2.out (.cells #[.slice (some ⟨wc.heap.size, 0, none⟩) n n, .slice ao n n, .int .i64 nw] 40))
              refine (wipe_any w2.heap.size w.heap.size n ao A L g _ hsm (ring_cell w2 _ _ _) (fun h => (HE.out.row h).1) HRD.out.1 HRD.out.2.1).mono ?_
              rintro e w4 ⟨rfl, hwi⟩
              have HD := hid (done_of HE.out HR.out HKL.out HBK.out HB2.out HCL.out hwi)
              have HKE := hid (HK.out.on HD.out.below)
              have r0 := HD.out.r0
              have r1 := HD.out.r1
              have r2 := HD.out.r2
              obtain ⟨bn, hbn, hbn'⟩ : ∃ b : Bool, ao.isNone = b ∧ a0.isNone = b := ⟨_, HE.out.same, rfl⟩
              have hn1 := Lib.run_eql_slice_nil (P := Yba.prog) w4 27 23 ao n n 0 0 Yba.underlying27
              have hn2 := Lib.run_eql_slice_nil (P := Yba.prog) w4 27 23 a0 n c0 0 0 Yba.underlying27
              rw [hbn] at hn1
              rw [hbn'] at hn2
              have hbb : (bn != bn) = false := by simp
              clear hwi HRD HCL HB2 HBK HR HKL hbn hbn'
              go_wp2_with (go_at_call 9; refine (equal9 _ _ _ _ _ _ hsm HD.out.keys HD.out.like HD.out.clone).mono ?_; rintro e w5 ⟨rfl, m, hw⟩; subst w5)
              clear hn1 hn2 hbb
              go_loopw [16] (fun i wr => ∃ k : Nat, k ≤ n ∧ i = .int .i64 k ∧ wr = w4.drewN m) (fun i _ => n - (intOf i).toNat)
              case atStart => exact ⟨0, Nat.zero_le _, rfl, rfl⟩
              case round =>
                obtain ⟨k, hk, rfl, hwr⟩ := hrel
                subst wr
                by_cases hlt : k < n
                · obtain ⟨x, rfl, hx⟩ := HKE.out.row k hlt
                  obtain ⟨rfl, hown⟩ := HD.out.own k hlt
                  have hlk := HLE.out k hlt
                  cases hA : A k with
                  | none =>
                    have e1 : ownV A L g n k = .slice none 0 0 := by unfold ownV; rw [hA]; simp
                    have e2 := HKE.out.inner k hlt hA
                    rw [e1] at hown
                    rw [hA, e2] at hx
                    have q1 : ∀ c, (binOp .eql 23 (.slice none 0 c) (.slice none 0 0)).run Yba.prog (w4.drewN m) = .ok (.bool true) (w4.drewN m) := fun c => Lib.run_eql_slice_nil (P := Yba.prog) (w4.drewN m) 23 5 none 0 c 0 0 Yba.underlying23
                    clear hA e1 e2 hlk
                    go_wp2
                    go_loopw [18] (fun i wr => i = .int .i64 0 ∧ wr = w4.drewN m) (fun _ _ => 0)
                    case atStart => exact ⟨rfl, rfl⟩
                    case round =>
                      obtain ⟨rfl, hwr⟩ := hrel
                      subst wr
                      go_wp2
                      go_roundw
                      case rel => exact ⟨k + 1, by omega, by go_num, trivial⟩
                      case measure => simp [intOf]; omega
                  | some ad =>
                    have hs : (A k).isSome = true := by rw [hA]; rfl
                    have e1 : ownV A L g n k = .slice (some ⟨g k, 0, none⟩) (L k) (L k) := by unfold ownV; rw [if_pos ⟨hlt, hs⟩]
                    rw [e1] at hown
                    rw [hA] at hx
                    have HZ := hid (HD.out.zero k hlt hs)
                    have q1 : ∀ a l c, (binOp .eql 23 (.slice (some a) l c) (.slice none 0 0)).run Yba.prog (w4.drewN m) = .ok (.bool false) (w4.drewN m) := fun a l c => Lib.run_eql_slice_nil (P := Yba.prog) (w4.drewN m) 23 5 (some a) l c 0 0 Yba.underlying23
                    clear hA e1 hs
                    go_wp2
                    go_loopw [18] (fun i wr => ∃ j : Nat, j ≤ L k ∧ i = .int .i64 j ∧ wr = w4.drewN m) (fun i _ => L k - (intOf i).toNat)
                    case atStart => exact ⟨0, Nat.zero_le _, rfl, rfl⟩
                    case round =>
                      obtain ⟨j, hj, rfl, hwr⟩ := hrel
                      subst wr
                      by_cases hjl : j < L k
                      · have hz := HZ.out j hjl
                        go_wp2
                        go_roundw
                        case rel => exact ⟨j + 1, by omega, by go_num, trivial⟩
                        case measure => simp [intOf]; omega
                      · have hjk : j = L k := by omega
                        subst hjk
                        go_wp2
                        go_roundw
                        case rel => exact ⟨k + 1, by omega, by go_num, trivial⟩
                        case measure => simp [intOf]; omega
                · have hkn : n = k := by omega
                  subst hkn
                  go_wp2
                  go_ret
                  exact ⟨rfl, below_drewN HD.out.below _⟩
end Go.Proofs.Ybulkcats
