/-
  THE WALK of 'LawS3852AEveryName' (function 3).
-/
import Derived.Test.YbulkcateNames
import Derived.Deep.RegionHeld3
import Derived.Deep.RegionLaw
import Derived.Deep.QuietTactic
import Derived.BigQuiet
import Derived.Deep.DeepCutAuto
import Derived.Deep.DrawnRows
namespace Go.Proofs.Ybulkcate
open Go.ChangeShapes Go.WideShapes Go.ChangeAt Go.RowKit Go.Deep

theorem Yba.info5' : (Yba.prog.info? 5).map (fun i => (i.zero, i.size, i.bytes)) = some (some (.int .u8 0), 1, 1) := by kernel_rfl
theorem Yba.info3 : (Yba.prog.info? 3).map (fun i => (i.zero, i.size, i.bytes)) = some (some (.int .i64 0), 1, 8) := by kernel_rfl
theorem Yba.info27 : (Yba.prog.info? 27).map (fun i => (i.zero, i.size, i.bytes)) = some (some (.slice none 0 0), 1, 24) := by kernel_rfl

theorem make0 (n : Nat) (hn : n ≤ 1048576) (w : World) : (Instr.makeSlice 23 (.int .i64 0) (.int .i64 (n : Int))).run Yba.prog w = .ok (.slice (some ⟨w.heap.size, 0, none⟩) 0 n) (w.alloc (.cells (madeCells #[.int .u8 0] n) 5)) := by
  obtain ⟨i, hi, hz0, hz1, hz2⟩ := info_parts Yba.info5'
  have hr := run_make (P := Yba.prog) w 23 5 i (.int .u8 0) Yba.underlying23 hi hz0 .i64 .i64 0 n (by omega) (by omega) (by rw [hz2]; omega) (by omega)
  simp only [Int.toNat_natCast, hz1, Nat.mul_one] at hr
  exact hr

/-- An append whose run is known, as a law for the walk. -/
theorem wpList_append_eq {P : Program} {w : World} {ops : Array Oper} {rest : List Oper} {o : Oper} {a : Act} {Q : Exit → Act → World → Prop} (hgd : o.guard = none) (s x : Operand) (t tx : TypeId)
    (ho : o.op = .call { callee := .builtin .append, args := #[s, x], argTypes := #[t, tx] }) (v1 v2 : Value) (hs : a.eval s = v1) (hx : a.eval x = v2) (v' : Value) (w' : World)
    (hr : (Builtin.append_ #[t, tx] o.type #[v1, v2]).run P w = .ok v' w') (h : wpList P ops Q rest (a.put o.dst v') w') : wpList P ops Q (o :: rest) a w := by
  refine wpList_plain hgd fun K hK => ?_
  unfold Oper.wp execOp
  simp only [ho, resolve, invoke, builtin, Sem.run_bind, Sem.run_pure, Result.andThen_ok, List.map_toArray, List.map_cons, List.map_nil, hs, hx, hr]
  exact hK _ _ h

/-- A new block of ends: its cells behind a letter, so that no step counts them up. -/
theorem make3 : ∃ Z3 : Array Value, (∀ w : World, (Instr.makeSlice 27 (.int .i64 4096) (.int .i64 4096)).run Yba.prog w = .ok (.slice (some ⟨w.heap.size, 0, none⟩) 4096 4096) (w.alloc (.cells Z3 3))) ∧
    ∀ w : World, (w.alloc (.cells Z3 3)).rowIs w.heap.size 3 4096 (fun _ => .int .i64 0) :=
  ⟨madeCells #[.int .i64 0] 4096, fun w => run_make_row' (P := Yba.prog) 27 3 (.int .i64 0) 8 Yba.underlying27 Yba.info3 rfl .i64 .i64 4096 (by omega) (by omega) w, fun w => World.rowIs_made w (.int .i64 0) 4096 3⟩

theorem col_drewN {w : World} {cb n : Nat} {P : Nat → Nat} (h : Col w cb n P) (m : Nat) : Col (w.drewN m) cb n P := by
  obtain ⟨g, nb, cap, h1, h2⟩ := h
  refine ⟨g, nb, cap, by simpa using h1, fun i hi => ?_⟩
  obtain ⟨a, gj, b, c⟩ := h2 i hi
  exact ⟨a, gj, by simpa using b, by simpa using c⟩

set_option maxHeartbeats 2000000 in
theorem names_any (a0 : Option Addr) (len cap : Nat) (S : Nat → ByteArray) (w : World) (hle : len ≤ 10000)
    (hcell : ∀ k, k < len → ∃ x, a0 = some x ∧ w.cell? (x.add k) = some (.string (S k)) ∧ x.block < w.heap.size) (hS : ∀ k, k < len → (S k).size ≤ maxLen) :
    Calls Yba.prog 3 #[.slice a0 len cap] w fun e w' => e = .returned (.bool true) ∧ Below w.heap.size w w' := by
  unfold maxLen at hS
  go_enter Yba.func3, Yba.ntmps3
  go_wp2
  go_loop [3, 18] (fun t i => ∃ k : Nat, k ≤ len ∧ i = .int .i64 k ∧ t = .int .i64 (Pz S k : Nat) ∧ Pz S k ≤ k * 65536) (fun _ i => len - (intOf i).toNat)
  case atStart => exact ⟨0, Nat.zero_le _, rfl, rfl, by simp [Pz]⟩
  case round =>
    obtain ⟨k, hk, rfl, rfl, hP⟩ := hrel
    by_cases hlt : k < len
    · obtain ⟨x, rfl, hx, hxb⟩ := hcell k hlt
      have hs := hS k hlt
      have hP1 : Pz S (k + 1) = Pz S k + (S k).size := rfl
      have HP := hd hP1
      clear hP1 hcell hS
      obtain ⟨xb, xo, xe⟩ := x
      by_cases hbig : 65536 < ((S k).size : Int)
      · go_wp2
        go_ret
        exact ⟨rfl, Below.refl _ _⟩
      · go_wp2
        go_round
        case rel => exact ⟨k + 1, by omega, by go_num, by rw [HP.out]; go_num, by rw [HP.out]; omega⟩
        case measure => simp [intOf]; omega
    · obtain hke : k = len := by omega
      subst k
      by_cases htot : 1048576 < (Pz S len : Int)
      · clear hcell hS
        go_wp2
        go_ret
        exact ⟨rfl, Below.refl _ _⟩
      · obtain ⟨total, htotal⟩ : ∃ t, t = Pz S len := ⟨_, rfl⟩
        have HT := hd htotal
        rw [← htotal] at htot hP ⊢
        clear htotal
        have hmk0 := make0 total (by omega)
        have HC := hd hcell
        have HS := hd hS
        clear hcell hS
        go_wp2
        clear hmk0
        go_loopg [6, 8, 37] len (fun gk b p i wr => ∃ (k nb : Nat) (v : Value) (g : Nat → Nat), k ≤ len ∧ gk = len - k ∧ nb = (k + 4095) / 4096 ∧ b = .slice (some ⟨w.heap.size, 0, none⟩) (Pz S k) total ∧ p = .int .i64 (Pz S k : Nat) ∧ i = .int .i64 k ∧ Inv w S total k k nb v g wr)
        case atStart => exact ⟨0, 0, _, _, Nat.zero_le _, rfl, rfl, rfl, rfl, rfl, inv_start w S total⟩
        case round =>
          obtain ⟨k, nb, v, g, hk, hgk, hnb, rfl, rfl, rfl, hinv⟩ := hrel
          by_cases hlt : k < len
          · obtain ⟨x, hxe, hx, hxb⟩ := HC.out k hlt
            subst hxe
            have hs := HS.out k hlt
            have hx' : wr.cell? (x.add k) = some (.string (S k)) := (hinv.below.cell (p := x.add k) (by rw [show (x.add k).block = x.block by unfold Addr.add; split <;> rfl]; exact hxb)).trans hx
            have HN := hd hnb
            have HI := hd hinv
            clear hx hnb hinv
            obtain ⟨xb, xo, xe⟩ := x
            go_upto_if 44 with (fail)
            go_cut [] (fun w' => ∃ (nb' : Nat) (v' : Value) (g' : Nat → Nat), nb' = (k + 1 + 4095) / 4096 ∧ Inv w S total k k nb' v' g' w')
            case first =>
              by_cases hm : k % 4096 = 0
              · have hm' : ((k : Int) % 4096 == 0) = true := by simp; omega
                obtain ⟨Z3, hmk3, rowIs_Z3⟩ := make3
                have HZ := hd rowIs_Z3
                clear rowIs_Z3
                obtain ⟨i0, hi0, hz0, hz1, hz2⟩ := info_parts Yba.info27
                have hv0 := HI.out.cell0
                have hf0 := HI.out.free0 0
                have hsz : w.heap.size + 1 < wr.heap.size := World.block_lt_of_cell? _ _ hv0
                clear hx'
                go_wp2_with fail
                have ag : v.ownBlock ≠ some (w.heap.size + 1) := own_ne HI.out.own HI.out.col (by decide)
                have hnb : nb ≤ 10000 := by have := HN.out; omega
                have HB : Hid (((wr.alloc (.cells Z3 3)).alloc (.cells #[.slice (some ⟨wr.heap.size, 0, none⟩) 4096 4096] 27)).heap[wr.heap.size + 1]? = some (.cells #[.slice (some ⟨wr.heap.size, 0, none⟩) 4096 4096] 27 (0, 0))) := by
                  have := heap_alloc_new (wr.alloc (.cells Z3 3)) (.cells #[.slice (some ⟨wr.heap.size, 0, none⟩) 4096 4096] 27)
                  rw [World.size_alloc] at this
                  exact this
                have HW : Hid (Below wr.heap.size wr ((wr.alloc (.cells Z3 3)).alloc (.cells #[.slice (some ⟨wr.heap.size, 0, none⟩) 4096 4096] 27))) := ((Below.refl _ _).alloc (Nat.le_refl _) _).alloc (by rw [World.size_alloc]; omega) _
                have hca : ∀ o, (wr.alloc o).cell? ⟨w.heap.size + 1, 0, none⟩ = some v := fun o => (World.cell?_alloc_lt _ _ _ hsz).trans hv0
                have hca2 : ∀ o o', ((wr.alloc o).alloc o').cell? ⟨w.heap.size + 1, 0, none⟩ = some v := fun o o' => (World.cell?_alloc_lt _ _ _ (by rw [World.size_alloc]; show w.heap.size + 1 < _; omega)).trans (hca o)
                go_region_law ((refine step_append_lies _ (by rfl) _ _ _ (by rfl) (w.heap.size + 2) 27 i0 _ 1 24 Yba.underlying24 hi0 hz0 hz1 hz2 rfl (by omega) v nb ((List.range nb).map (blkV g)) (by rfl) (((HI.out.own.alloc _).alloc _).drew) ⟨wr.heap.size + 1, 0, none⟩ 1 1 [.slice (some ⟨wr.heap.size, 0, none⟩) 4096 4096] (by rfl) (by rfl) (World.news_of_block (cs := #[.slice (some ⟨wr.heap.size, 0, none⟩) 4096 4096]) (t := 27) (fr := (0, 0)) (by exact HB.out)) (by simp [Value.oneCell']) (by omega) (by unfold maxLen; omega) (by omega) (by simp; omega) (wr.heap.size + 2) (by simp) ?_; intro gg cap1 w1 hown1 hgrow hat hlt1; have hf1 : w1.frozen? ⟨w.heap.size + 1, 0, none⟩ = false := (hgrow.frozen_far _ (by simp; omega) (Ne.symm ag)).trans ((HW.out.frozen (p := ⟨w.heap.size + 1, 0, none⟩) hsz).trans hf0); have hc1 : w1.cell? ⟨w.heap.size + 1, 0, none⟩ = some v := (hgrow.cell_far _ (by simp; omega) (Ne.symm ag)).trans ((HW.out.cell (p := ⟨w.heap.size + 1, 0, none⟩) hsz).trans hv0)))
                all_goals
                  have hnk := HN.out
                  have G1 := hd (inv_grow HI.out (by omega) HW.out.drew (by show wr.heap.size < ((wr.alloc _).alloc _).heap.size; rw [World.size_alloc, World.size_alloc]; omega) ((HZ.out wr).alloc _).drew hown1 hgrow)
                  clear hnk hown1 hgrow hca hca2 hmk3 hv0 hf0 hf1 hc1
                  go_wp2
                  go_meet
                  case rel => exact ⟨nb + 1, _, _, by have := HN.out; omega, G1.out⟩
              · have hm' : ((k : Int) % 4096 == 0) = false := by simp; omega
                go_wp2
                go_meet
                case rel => exact ⟨nb, v, g, by have := HN.out; omega, HI.out⟩
            case rest =>
              obtain ⟨nb', v', g', hnb', hinv'⟩ := hcut
              have htt := HT.out
              have hroom : Pz S (k + 1) ≤ total := by rw [htt]; exact Pz_mono S (by omega)
              clear htt HI HN hx'
              obtain ⟨w2, happ, hinv2⟩ := inv_bytes hinv' hroom
              clear hinv'
              obtain ⟨gg, cap', hv', hcg⟩ := hinv2.form (by omega)
              subst hv'
              have hq : k / 4096 < nb' := by omega
              have hr : k % 4096 < 4096 := Nat.mod_lt _ (by omega)
              have c0 := hinv2.cell0
              have c1 := hcg _ hq
              have c2 := (hinv2.blk _ hq).cell hr
              have c3 := (hinv2.blk _ hq).frozen (k % 4096)
              have HF := hd (inv_end hinv2 hq)
              have HA := hd happ
              have HP1 : Hid (Pz S (k + 1) = Pz S k + (S k).size) := rfl
              have HN := hd hnb'
              have hPb : Pz S k + (S k).size ≤ total := hroom
              clear happ hinv2 hcg hnb' hroom
              simp only [numV] at c2
              go_wp2_with (at_builtin; refine wpList_append_eq rfl _ _ 23 9 rfl _ _ rfl rfl _ _ HA.out ?_)
              go_roundg (len - (k + 1))
              case measure => omega
              case rel =>
                have e1 : ((Pz S k : Int) + ((S k).size : Int)) = ((Pz S (k + 1) : Nat) : Int) := by rw [HP1.out]; omega
                rw [e1]
                exact ⟨k + 1, nb', _, g', by omega, rfl, HN.out, rfl, rfl, by go_num, HF.out⟩
          · obtain hke : k = len := by omega
            subst k
            have c1 := hinv.cell1
            have f1 := hinv.free0 1
            obtain ⟨all, hall, htx⟩ : ∃ all : ByteArray, Hid (all = ⟨(Cat S len).toArray⟩) ∧ (convert 23 9 (.slice (some ⟨w.heap.size, 0, none⟩) total total)).run Yba.prog (wr.setCell ⟨w.heap.size + 1, 1, none⟩ (.int .i64 (len : Int))) = .ok (.string all) (wr.setCell ⟨w.heap.size + 1, 1, none⟩ (.int .i64 (len : Int))) :=
              ⟨_, rfl, hinv.text HT.out.symm (.int .i64 (len : Int))⟩
            have hbel := (hinv.below.setCell (p := ⟨w.heap.size + 1, 1, none⟩) (by show w.heap.size ≤ w.heap.size + 1; omega) (.int .i64 (len : Int)))
            have HCol : Hid (0 < len → Col (wr.setCell ⟨w.heap.size + 1, 1, none⟩ (.int .i64 (len : Int))) (w.heap.size + 1) len (Pz S)) := fun h => hinv.done (by omega) h _
            have HB := hd hbel
            have HTE := HT.out
            rw [← HTE]
            clear HTE hinv hbel hnb
            go_wp2
            go_loopw [12] (fun i wx => ∃ k : Nat, k ≤ len ∧ i = .int .i64 k ∧ Below w.heap.size w wx ∧ (0 < len → Col wx (w.heap.size + 1) len (Pz S))) (fun i _ => len - (intOf i).toNat)
            case atStart => exact ⟨0, Nat.zero_le _, rfl, HB.out, HCol.out⟩
            case round =>
              obtain ⟨k, hk, rfl, hbx, hcx⟩ := hrel
              clear htx c1 f1 HB HCol
              by_cases hlt : k < len
              · obtain ⟨x, hxe, hx, hxb⟩ := HC.out k hlt
                subst hxe
                have hal : all.size = total := by rw [hall.out, size_Cat]; exact HT.out.symm
                have hcut : all.extract (Pz S k) (Pz S (k + 1)) = S k := by rw [hall.out]; exact cut_name S hlt
                have HA : Hid (∀ m, Calls Yba.prog 6 #[.string all, .pointer (some ⟨w.heap.size + 1, 0, none⟩), .int .i64 k] (wr.drewN m) fun e w' => e = .returned (.string (S k)) ∧ w' = wr.drewN m) := fun m => by
                  have := nameAt_any all (w.heap.size + 1) len k (Pz S) (wr.drewN m) (by omega) hlt (col_drewN (hcx (by omega)) m) rfl (Pz_mono S (by omega)) (by rw [hal, HT.out]; exact Pz_mono S (by omega)) (by omega)
                  rw [hcut] at this
                  exact this
                have hx' : wr.cell? (x.add k) = some (.string (S k)) := (hbx.cell (p := x.add k) (by rw [show (x.add k).block = x.block by unfold Addr.add; split <;> rfl]; exact hxb)).trans hx
                clear hcut hal hx
                obtain ⟨xb, xo, xe⟩ := x
                go_wp2_with fail
                go_quiet ((go_at_call 6; exact Calls.quiet_of_same (HA.out _)))
                go_wp2
                go_roundw
                case rel => exact ⟨k + 1, by omega, by go_num, below_drewN hbx _, fun h => col_drewN (hcx h) _⟩
                case measure => simp [intOf]; omega
              · go_wp2
                go_ret
                exact ⟨rfl, hbx⟩
end Go.Proofs.Ybulkcate
