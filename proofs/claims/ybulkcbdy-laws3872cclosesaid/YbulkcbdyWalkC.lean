/-
  THE WALK of 'LawS3872CClose' (function 3).
-/
import Derived.Test.YbulkcbdyMem
import Derived.Test.YbulkcbdyClose
import Derived.Test.YbulkcbdyAft
import Derived.Deep.DeepCutAuto
import Derived.Deep.RegionHeld3
import Derived.Deep.QuietTactic
import Derived.BigQuiet
import Derived.Conc.LoneSelectN
namespace Go.Proofs.Ybulkcbdy
open Go.ChangeShapes Go.WideShapes Go.ChangeAt Go.RowKit Go.Deep Go.Conc Go.MuLone

theorem bytes32 : ∃ i, Yba.prog.info? 32 = some i ∧ i.bytes = 0 := by
  have h : (Yba.prog.info? 32).map (·.bytes) = some 0 := by kernel_rfl
  obtain ⟨i, hi, hb⟩ := Option.map_eq_some_iff.1 h
  exact ⟨i, hi, hb⟩
theorem mk0 (w : World) : (Instr.makeChan 24 (.int .i64 0)).run Yba.prog w = .ok (.chan (some w.heap.size)) (w.alloc (.chan 0 #[] false 0 0 false)) := by
  obtain ⟨i, hi, hb⟩ := bytes32
  simpa using run_makeChan (P := Yba.prog) (w := w) Yba.underlying24 hi .i64 0 (by omega) (by rw [hb]; omega)
theorem mk1 (w : World) : (Instr.makeChan 24 (.int .i64 1)).run Yba.prog w = .ok (.chan (some w.heap.size)) (w.alloc (.chan 1 #[] false 0 0 false)) := by
  obtain ⟨i, hi, hb⟩ := bytes32
  simpa using run_makeChan (P := Yba.prog) (w := w) Yba.underlying24 hi .i64 1 (by omega) (by rw [hb]; omega)

theorem len_empty (w : World) (m : Nat) (ty : TypeId) (h : w.heap[m]? = some (.map #[] 0)) : (Builtin.len_ #[27] ty #[.map (some m)]).run Yba.prog w = .ok (.int .i64 0) w := by
  simp [Builtin.len_, run_underlying Yba.underlying27, MapKept.run_getObj_map h, goInt, Result.andThen]

/-- Which of the four new blocks it is. -/
def look (s : Nat) (o1 o2 o3 o4 : Obj) (i : Nat) : Option Obj := if i = s then some o1 else if i = s + 1 then some o2 else if i = s + 1 + 1 then some o3 else if i = s + 1 + 1 + 1 then some o4 else none

theorem look1 (s : Nat) (o1 o2 o3 o4 : Obj) : look s o1 o2 o3 o4 s = some o1 := by unfold look; rw [if_pos rfl]
theorem look2 (s : Nat) (o1 o2 o3 o4 : Obj) : look s o1 o2 o3 o4 (s + 1) = some o2 := by unfold look; rw [if_neg (by omega), if_pos rfl]
theorem look3 (s : Nat) (o1 o2 o3 o4 : Obj) : look s o1 o2 o3 o4 (s + 1 + 1) = some o3 := by unfold look; rw [if_neg (by omega), if_neg (by omega), if_pos rfl]
theorem look4 (s : Nat) (o1 o2 o3 o4 : Obj) : look s o1 o2 o3 o4 (s + 1 + 1 + 1) = some o4 := by unfold look; rw [if_neg (by omega), if_neg (by omega), if_neg (by omega), if_pos rfl]

theorem look_heap (wd : World) (o1 o2 o3 o4 o5 o : Obj) (i : Nat) (h : look wd.heap.size o1 o2 o3 o4 i = some o) : (((((wd.alloc o1).alloc o2).alloc o3).alloc o4).alloc o5).heap[i]? = some o := by
  have e : ∀ (W : World) (x : Obj) (j : Nat), j < W.heap.size → (W.alloc x).heap[j]? = W.heap[j]? := fun W x j hj => ((Below.refl W.heap.size W).alloc (Nat.le_refl _) x).block j hj
  have s1 : (wd.alloc o1).heap.size = wd.heap.size + 1 := World.size_alloc _ _
  have s2 : ((wd.alloc o1).alloc o2).heap.size = wd.heap.size + 1 + 1 := by rw [World.size_alloc, s1]
  have s3 : (((wd.alloc o1).alloc o2).alloc o3).heap.size = wd.heap.size + 1 + 1 + 1 := by rw [World.size_alloc, s2]
  have s4 : ((((wd.alloc o1).alloc o2).alloc o3).alloc o4).heap.size = wd.heap.size + 1 + 1 + 1 + 1 := by rw [World.size_alloc, s3]
  unfold look at h
  split at h
  · rename_i hi; subst hi
    rw [e _ _ _ (by omega), e _ _ _ (by omega), e _ _ _ (by omega), e _ _ _ (by omega), heap_alloc_new]; exact h
  · split at h
    · rename_i hi; subst hi
      rw [e _ _ _ (by omega), e _ _ _ (by omega), e _ _ _ (by omega), ← s1, heap_alloc_new]; exact h
    · split at h
      · rename_i hi; subst hi
        rw [e _ _ _ (by omega), e _ _ _ (by omega), ← s2, heap_alloc_new]; exact h
      · split at h
        · rename_i hi; subst hi
          rw [e _ _ _ (by omega), ← s3, heap_alloc_new]; exact h
        · cases h

theorem made5 (wd : World) (o1 o2 o3 o4 : Obj) (win : Int) (dv qv : Value) (st : Bool) (cd m1 m2 cw cs : Nat)
    (h1 : look wd.heap.size o1 o2 o3 o4 m1 = some (.map #[] 0)) (h2 : look wd.heap.size o1 o2 o3 o4 m2 = some (.map #[] 0)) (h3 : look wd.heap.size o1 o2 o3 o4 cw = some (.chan 1 #[] false 0 0 false)) (h4 : look wd.heap.size o1 o2 o3 o4 cs = some (.chan 0 #[] false 0 0 false)) (hcs : wd.heap.size ≤ cs) :
    Made wd (((((wd.alloc o1).alloc o2).alloc o3).alloc o4).alloc (.cells #[.pointer none, .pointer none, .pointer none, .pointer none, .int .i64 win, .int .i32 0, .int .u32 0, dv, qv, .map (some m1), .map (some m2), .bool st, .chan (some cw), .chan (some cs), .chan (some cd)] 40)) (.pointer (some ⟨wd.heap.size + 1 + 1 + 1 + 1, 0, none⟩)) win dv qv st cd := by
  have s1 : (wd.alloc o1).heap.size = wd.heap.size + 1 := World.size_alloc _ _
  have s2 : ((wd.alloc o1).alloc o2).heap.size = wd.heap.size + 1 + 1 := by rw [World.size_alloc, s1]
  have s3 : (((wd.alloc o1).alloc o2).alloc o3).heap.size = wd.heap.size + 1 + 1 + 1 := by rw [World.size_alloc, s2]
  have s4 : ((((wd.alloc o1).alloc o2).alloc o3).alloc o4).heap.size = wd.heap.size + 1 + 1 + 1 + 1 := by rw [World.size_alloc, s3]
  refine ⟨_, m1, m2, cw, cs, rfl, by rw [← s4]; exact heap_alloc_new _ _, look_heap _ _ _ _ _ _ _ _ h1, look_heap _ _ _ _ _ _ _ _ h2, look_heap _ _ _ _ _ _ _ _ h3, look_heap _ _ _ _ _ _ _ _ h4, by omega, hcs, ?_⟩
  exact (((((Below.refl _ wd).alloc (Nat.le_refl _) o1).alloc (by omega) o2).alloc (by omega) o3).alloc (by omega) o4).alloc (by omega) _

theorem made_drew {wd wx : World} {v : Value} {win : Int} {dv qv : Value} {st : Bool} {cd : Nat} (h : Made wd wx v win dv qv st cd) : Made wd wx.drew v win dv qv st cd := by
  obtain ⟨H, m1, m2, cw, cs, h0, h1, h2, h3, h4, h5, h6, h7, h8⟩ := h
  exact ⟨H, m1, m2, cw, cs, h0, h1, h2, h3, h4, h5, h6, h7, h8.trans ⟨rfl, rfl, rfl, Nat.le_refl _, fun _ _ => rfl⟩⟩

set_option maxHeartbeats 8000000 in
set_option maxRecDepth 100000 in
theorem close_law (b0 : Bool) (a1 : Option Addr) (n c1 : Nat) (S : Nat → ByteArray) (win : Int) (w : World) (hn : n ≤ maxLen) (hD : Due w a1 n S) :
    Calls Yba.prog 3 #[.bool b0, .slice a1 n c1, .int .i64 win] w fun e w' => e = .returned (.bool true) ∧ Below w.heap.size w w' := by
  have HD := hid hD
  clear hD
  unfold maxLen at hn
  go_enter Yba.func3, Yba.ntmps3
  by_cases hbig : 1024 < n
  · go_wp2
    go_ret
    exact ⟨rfl, Below.refl _ _⟩
  · have hsm : n ≤ 1024 := by omega
    clear hbig hn
    have hmk := run_make_row' (P := Yba.prog) 22 9 (.string ByteArray.empty) 16 Yba.underlying22 Yba.info9 rfl .i64 .i64 n (by omega) (by omega)
    obtain ⟨w2, hcp, hrow, hbel⟩ := copy_due (c1 := c1) HD.out
    have HR := hid hrow
    have HB := hid hbel
    have HQ0 := hid (qmap_start w2 S)
    clear hrow hbel
    have hmm := @run_makeMap Yba.prog
    have hc0 := mk0
    have hc1 := mk1
    go_wp2
    go_loopw [30] (fun i wr => ∃ k : Nat, k ≤ n ∧ i = .int .i64 k ∧ QMap wr w2.heap.size k S k ∧ Below w2.heap.size w2 wr) (fun i _ => n - (intOf i).toNat)
    case atStart => exact ⟨0, Nat.zero_le _, rfl, HQ0.out, (Below.refl _ _).alloc (Nat.le_refl _) _⟩
    case round =>
      obtain ⟨k, hk, rfl, hq, hb⟩ := hrel
      have HQ := hid hq
      have HBk := hid hb
      clear hq hb
      by_cases hlt : k < n
      · have hcell : wr.cell? ⟨w.heap.size, k, none⟩ = some (.string (S k)) := (HBk.out.cell (p := ⟨w.heap.size, k, none⟩) HR.out.lt).trans (HR.out.cell hlt)
        obtain ⟨w', hmu, hq', hg⟩ := qmap_step HQ.out (by unfold maxLen; omega) (HD.out.size k hlt)
        have HQ' := hid hq'
        have HG := hid hg
        clear hq' hg
        go_wp2
        go_roundw
        case rel => exact ⟨k + 1, by omega, by go_num, HQ'.out, HBk.out.grown HG.out HBk.out.size (fun j hj => by cases hj; exact Nat.le_refl _)⟩
        case measure => simp [intOf]; omega
      · have hkn : n = k := by omega
        subst hkn
        clear hlt hk
        have hcl : ∀ ats ty, (Builtin.close_ ats ty #[.chan (some wr.heap.size)]).run Yba.prog (wr.alloc (.chan 0 #[] false 0 0 false)) = .ok (.tuple #[]) ((wr.alloc (.chan 0 #[] false 0 0 false)).setChan wr.heap.size 0 #[] true 0 0 false) := fun ats ty =>
          run_close_open (P := Yba.prog) (w := wr.alloc (.chan 0 #[] false 0 0 false)) ats ty (heap_alloc_new wr _)
        obtain ⟨wd, hwd⟩ : ∃ wd, wd = (wr.alloc (.chan 0 #[] false 0 0 false)).setChan wr.heap.size 0 #[] true 0 0 false := ⟨_, rfl⟩
        rw [← hwd] at hcl
        have HWD := hid hwd
        clear hwd
        go_upto_region 13 with (fail)
        go_cut [12] (fun v wx => Made wd wx v win (.slice (some ⟨w.heap.size, 0, none⟩) n n) (.map (some w2.heap.size)) b0 wr.heap.size)
        case first =>
          clear hmk hcp hcl
          go_region_held3 (fun _ => True) (trivial) (fail)
          all_goals
            go_wp2
            go_meet
            case rel => (refine made_drew (made5 wd _ _ _ _ win _ _ _ _ _ _ _ _ ?_ ?_ ?_ ?_ ?_) <;> first | exact look1 _ _ _ _ _ | exact look2 _ _ _ _ _ | exact look3 _ _ _ _ _ | exact look4 _ _ _ _ _ | omega)
        case rest =>
          obtain ⟨H, m1, m2, cw, cs, rfl, hH, hm1, hm2, hcw, hcs, hHl, hcsl, hbc⟩ := hcut
          obtain ⟨hcd, n1, n2, n3, haft⟩ := after_close HR.out HB.out HQ.out HBk.out HWD.out hH hm1 hm2 hcw hcs hHl hcsl hbc
          have hc : ∀ (j : Nat) (v : Value), (#[Value.pointer none, .pointer none, .pointer none, .pointer none, .int .i64 win, .int .i32 0, .int .u32 0, .slice (some ⟨w.heap.size, 0, none⟩) n n, .map (some w2.heap.size), .map (some m1), .map (some m2), .bool b0, .chan (some cw), .chan (some cs), .chan (some wr.heap.size)] : Array Value)[j]? = some v → wc.cell? ⟨H, j, none⟩ = some v := fun j v hv => by
            simp only [World.cell?, hH]
            simpa using hv
          have HC := hid (close_any H cs wr.heap.size 0 0 0 0 0 0 b0 wc (hc 5 _ rfl) (hc 11 _ rfl) (hc 13 _ rfl) (hc 14 _ rfl) (fun j => by simp [World.frozen?, hH]) hcs hcd n1 n2 n3)
          obtain ⟨w5, hw5⟩ : ∃ w5, w5 = (((wc.setCell ⟨H, 5, none⟩ (.int .i32 1)).setCell ⟨H, 11, none⟩ (.bool true)).setCell ⟨H, 5, none⟩ (.int .i32 0)).setChan cs 0 #[] true 0 0 false := ⟨_, rfl⟩
          rw [← hw5] at haft
          have HA := hid haft
          have HW5 := hid hw5
          clear hH hm1 hm2 hcw hcs hHl hcsl hbc haft hc hw5 hcd n1 n2 n3 hmk hcp hcl hmm hc0 hc1
          have r11 := HA.out.r11
          have r13 := HA.out.r13
          go_upto_region 17 with (go_at_call 4; refine HC.out.mono ?_; rintro e w9 ⟨rfl, hw9⟩; rw [← HW5.out] at hw9; subst w9)
          refine wp_region_ops ?_
          simp only [List.size_toArray, List.length_cons, List.length_nil, Nat.reduceAdd, Nat.zero_add, List.range, List.range.loop]
          iterate 4 (refine opsTo_op rfl rfl (fun K hK => ?_); go_simp; simp only [upon1]; refine hK _ _ ?_; clear hK K; walk_nrm)
          refine opsTo_recv_shut rfl rfl true (c := cs) (z := .agg #[]) (cap := 0) (s := 0) (r := 0) (tm := false) (by simp [go_sem, rcase]) HA.out.hcs ?_
          simp only [got]
          walk_nrm
          iterate 6 (refine opsTo_op rfl rfl (fun K hK => ?_); go_simp; simp only [upon1]; refine hK _ _ ?_; clear hK K; walk_nrm)
          refine opsTo_nil ?_
          have HA6 := hid (aft_alloc HA.out (.cells #[] 32))
          have q14 := HA6.out.r14
          go_upto_region 20 with (fail)
          refine wp_region_ops ?_
          simp only [List.size_toArray, List.length_cons, List.length_nil, Nat.reduceAdd, Nat.zero_add, List.range, List.range.loop]
          iterate 4 (refine opsTo_op rfl rfl (fun K hK => ?_); go_simp; simp only [upon1]; refine hK _ _ ?_; clear hK K; walk_nrm)
          refine opsTo_recv_shut rfl rfl true (c := wr.heap.size) (z := .agg #[]) (cap := 0) (s := 0) (r := 0) (tm := false) (by simp [go_sem, rcase]) HA6.out.hcd ?_
          simp only [got]
          walk_nrm
          iterate 6 (refine opsTo_op rfl rfl (fun K hK => ?_); go_simp; simp only [upon1]; refine hK _ _ ?_; clear hK K; walk_nrm)
          refine opsTo_nil ?_
          obtain ⟨w7, hw7⟩ : ∃ w7, w7 = (w5.alloc (.cells #[] 32)).alloc (.cells #[] 32) := ⟨_, rfl⟩
          rw [← hw7]
          have haft7 := aft_alloc HA6.out (.cells #[] 32)
          rw [← hw7] at haft7
          have HA7 := hid haft7
          have HA8 := hid (aft_mu HA7.out 1)
          obtain ⟨w8, hw8⟩ : ∃ w8, w8 = (w7.setCell ⟨H, 5, none⟩ (.int .i32 1)).setCell ⟨H, 5, none⟩ (.int .i32 0) := ⟨_, rfl⟩
          have haft8 := aft_mu HA8.out 0
          rw [← hw8] at haft8
          have HA9 := hid haft8
          have HW8 := hid hw8
          have HCT := hid (trylock_free ⟨H, 5, none⟩ w7 HA7.out.r5 (HA7.out.fz 5))
          have HCU := hid (unlock_held Yba.muLib ⟨H, 5, none⟩ (w7.setCell ⟨H, 5, none⟩ (.int .i32 1)) HA8.out.r5 (HA8.out.fz 5))
          have p4 := HA9.out.r4
          have p7 := HA9.out.r7
          clear hw7 haft7 hw8 haft8 HA HA6 HA7 HA8 HW5 HC r11 r13 q14
          go_wp2_with (first | (go_at_call 5; refine HCT.out.mono ?_; rintro e w9 ⟨rfl, hw9⟩; subst w9) | (go_at_call 6; refine HCU.out.mono ?_; rintro e w9 ⟨rfl, hw9⟩; rw [← HW8.out] at hw9; subst w9))
          clear HCT HCU HW8
          have p8 := HA9.out.r8
          go_loopw [17] (fun i wx => ∃ k : Nat, k ≤ n ∧ i = .int .i64 k ∧ ∃ m, wx = w8.drewN m) (fun i _ => n - (intOf i).toNat)
          case atStart => exact ⟨0, Nat.zero_le _, rfl, 0, rfl⟩
          case round =>
            obtain ⟨k, hk, rfl, m, hwx⟩ := hrel
            subst wr
            by_cases hlt : k < n
            · obtain ⟨x, rfl, hx⟩ := (HD.out.on HA9.out.below).row k hlt
              have hown := HA9.out.row.cell hlt
              have hlook : ∀ j, (Instr.lookup 23 (.map (some w2.heap.size)) (.string (S k)) false).run Yba.prog (w8.drewN j) = .ok (.bool true) (w8.drewN j) := fun j => qmap_look (aft_drewN HA9.out j).qm hlt (HD.out.size k hlt)
              obtain ⟨xb, xo, xe⟩ := x
              go_wp2
              go_quiet (fail)
              go_wp2
              go_quiet (fail)
              go_wp2
              go_roundw
              case rel => exact ⟨k + 1, by omega, by go_num, _, rfl⟩
              case measure => simp [intOf]; omega
            · have hkn : n = k := by omega
              subst hkn
              clear hlt hk
              have HAn := hid (aft_drewN HA9.out m)
              have p9 := HAn.out.r9
              have p10 := HAn.out.r10
              have p12 := HAn.out.r12
              have l1 := fun ty => len_empty (w8.drewN m) m1 ty HAn.out.hm1
              have l2 := fun ty => len_empty (w8.drewN m) m2 ty HAn.out.hm2
              have l3 : ∀ ty, (Builtin.len_ #[24] ty #[.chan (some cw)]).run Yba.prog (w8.drewN m) = .ok (.int .i64 0) (w8.drewN m) := fun ty => run_len_chan (P := Yba.prog) 24 ty Yba.underlying24 HAn.out.hcw
              go_wp2
              go_ret
              exact ⟨rfl, HAn.out.below⟩
end Go.Proofs.Ybulkcbdy
