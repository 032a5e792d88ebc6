/-
  THE CONTRACT of '(*Healer).Close' (function 4).
-/
import Derived.Test.YbulkcbdyRecv
import Derived.Deep.DeepCutAuto
import Derived.Deep.OwnRows
namespace Go.Proofs.Ybulkcbdy
open Go.MuLone Go.Conc Go.RowKit

set_option maxRecDepth 100000 in
set_option maxHeartbeats 1600000 in
/-- H: the healer's block; cs: the stop channel's; cd: the done channel's. -/
theorem close_any (H cs cd c1 s1 r1 c2 s2 r2 : Nat) (st : Bool) (w : World) (hmu : w.cell? ⟨H, 5, none⟩ = some (.int .i32 0)) (hst : w.cell? ⟨H, 11, none⟩ = some (.bool st))
    (hs : w.cell? ⟨H, 13, none⟩ = some (.chan (some cs))) (hd : w.cell? ⟨H, 14, none⟩ = some (.chan (some cd)))
    (hfz : ∀ j, w.frozen? ⟨H, j, none⟩ = false)
    (hcs : w.heap[cs]? = some (.chan c1 #[] false s1 r1 false)) (hcd : w.heap[cd]? = some (.chan c2 #[] true s2 r2 false)) (hne : cs ≠ cd) (hcH : cs ≠ H) (hdH : cd ≠ H) :
    Calls Yba.prog 4 #[.pointer (some ⟨H, 0, none⟩)] w fun e w' => e = .returned (.tuple #[]) ∧
      w' = (((w.setCell ⟨H, 5, none⟩ (.int .i32 1)).setCell ⟨H, 11, none⟩ (.bool true)).setCell ⟨H, 5, none⟩ (.int .i32 0)).setChan cs c1 #[] true s1 r1 false := by
  go_enter Yba.func4, Yba.ntmps4
  go_wp2_with (go_at_call 7; refine (lock_free Yba.muLib _ _ hmu (hfz _)).mono ?_; rintro e w' ⟨rfl, rfl⟩)
  refine (unlock_held Yba.muLib _ _ (by simp [go_sem, hmu]) (by simp [go_sem, hfz])).mono ?_
  rintro e w3 ⟨rfl, hw3⟩
  have hs3 : w3.cell? ⟨H, 13, none⟩ = some (.chan (some cs)) := by rw [hw3]; simp [go_sem, hs]
  have hd3 : w3.cell? ⟨H, 14, none⟩ = some (.chan (some cd)) := by rw [hw3]; simp [go_sem, hd]
  have hcs3 : w3.heap[cs]? = some (.chan c1 #[] false s1 r1 false) := by
    rw [hw3, Below.heap_setCell _ _ _ _ hcH, Below.heap_setCell _ _ _ _ hcH, Below.heap_setCell _ _ _ _ hcH]
    exact hcs
  have hcd3 : w3.heap[cd]? = some (.chan c2 #[] true s2 r2 false) := by
    rw [hw3, Below.heap_setCell _ _ _ _ hdH, Below.heap_setCell _ _ _ _ hdH, Below.heap_setCell _ _ _ _ hdH]
    exact hcd
  obtain ⟨w4, hw4⟩ : ∃ w4, w4 = w3.setChan cs c1 #[] true s1 r1 false := ⟨_, rfl⟩
  have hcl : ∀ ats ty, (Builtin.close_ ats ty #[.chan (some cs)]).run Yba.prog w3 = .ok (.tuple #[]) w4 := fun ats ty => by
    rw [hw4]
    exact run_close_open (P := Yba.prog) (w := w3) ats ty hcs3
  have hcd4 : w4.heap[cd]? = some (.chan c2 #[] true s2 r2 false) := by
    rw [hw4]
    exact (heap_setChan_ne w3 (Ne.symm hne)).trans hcd3
  have hd4 : w4.cell? ⟨H, 14, none⟩ = some (.chan (some cd)) := (World.cell?_of_block (by rw [hw4]; exact heap_setChan_ne w3 (Ne.symm hcH))).trans hd3
  have HW := hid hw3
  have HW4 := hid hw4
  clear hw3 hw4 hmu hst hs hd hcs hcd hfz hd3
  go_upto_region 4 with (fail)
  refine wp_region_ops ?_
  simp only [List.size_toArray, List.length_cons, List.length_nil, Nat.reduceAdd, Nat.zero_add, List.range, List.range.loop]
  iterate 4 (refine opsTo_op rfl rfl (fun K hK => ?_); go_simp; simp only [upon1]; refine hK _ _ ?_; clear hK K; walk_nrm)
  refine opsTo_recv_shut rfl rfl false (c := cd) (z := .agg #[]) (cap := c2) (s := s2) (r := r2) (tm := false) (by simp [go_sem, rcase]) hcd4 ?_
  simp only [got]
  walk_nrm
  refine opsTo_nil ?_
  go_end0
  exact ⟨rfl, by rw [HW4.out, HW.out]⟩
end Go.Proofs.Ybulkcbdy
