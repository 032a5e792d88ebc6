/-
  FOR 'LawS3872CClose': what is known once Close has returned: no walk here.
-/
import Derived.Test.YbulkcbdyMem
import Derived.Test.YbulkcbdyClose
import Derived.WalkSmall
namespace Go.Proofs.Ybulkcbdy
open Go.ChangeShapes Go.WideShapes Go.ChangeAt Go.RowKit Go.Deep Go.Conc

/-- The healer, when it is made: wd: the world with the done channel closed. -/
def Made (wd wx : World) (v : Value) (win : Int) (dv qv : Value) (st : Bool) (cd : Nat) : Prop :=
  ∃ H m1 m2 cw cs, v = .pointer (some ⟨H, 0, none⟩) ∧
    wx.heap[H]? = some (.cells #[.pointer none, .pointer none, .pointer none, .pointer none, .int .i64 win, .int .i32 0, .int .u32 0, dv, qv, .map (some m1), .map (some m2), .bool st, .chan (some cw), .chan (some cs), .chan (some cd)] 40 (0, 0)) ∧
    wx.heap[m1]? = some (.map #[] 0) ∧ wx.heap[m2]? = some (.map #[] 0) ∧ wx.heap[cw]? = some (.chan 1 #[] false 0 0 false) ∧ wx.heap[cs]? = some (.chan 0 #[] false 0 0 false) ∧
    wd.heap.size ≤ H ∧ wd.heap.size ≤ cs ∧ Below wd.heap.size wd wx

structure Aft (w W : World) (H m1 m2 cw cs cd B n : Nat) (S : Nat → ByteArray) (win mu : Int) : Prop where
  r4 : W.cell? ⟨H, 4, none⟩ = some (.int .i64 win)
  r5 : W.cell? ⟨H, 5, none⟩ = some (.int .i32 mu)
  r7 : W.cell? ⟨H, 7, none⟩ = some (.slice (some ⟨w.heap.size, 0, none⟩) n n)
  r8 : W.cell? ⟨H, 8, none⟩ = some (.map (some B))
  r9 : W.cell? ⟨H, 9, none⟩ = some (.map (some m1))
  r10 : W.cell? ⟨H, 10, none⟩ = some (.map (some m2))
  r11 : W.cell? ⟨H, 11, none⟩ = some (.bool true)
  r12 : W.cell? ⟨H, 12, none⟩ = some (.chan (some cw))
  r13 : W.cell? ⟨H, 13, none⟩ = some (.chan (some cs))
  r14 : W.cell? ⟨H, 14, none⟩ = some (.chan (some cd))
  fz : ∀ j, W.frozen? ⟨H, j, none⟩ = false
  hm1 : W.heap[m1]? = some (.map #[] 0)
  hm2 : W.heap[m2]? = some (.map #[] 0)
  hcw : W.heap[cw]? = some (.chan 1 #[] false 0 0 false)
  hcs : W.heap[cs]? = some (.chan 0 #[] true 0 0 false)
  hcd : W.heap[cd]? = some (.chan 0 #[] true 0 0 false)
  row : W.rowIs w.heap.size 9 n (fun i => .string (S i))
  qm : QMap W B n S n
  nm1 : m1 ≠ H
  nm2 : m2 ≠ H
  ncw : cw ≠ H
  ncs : cs ≠ H
  ncd : cd ≠ H
  nrow : w.heap.size ≠ H
  nB : B ≠ H
  low : w.heap.size ≤ H
  below : Below w.heap.size w W

theorem lt_of_heap {w : World} {b : Nat} {o : Obj} (h : w.heap[b]? = some o) : b < w.heap.size := (Array.getElem?_eq_some_iff.1 h).1

theorem qmap_lt {w : World} {B m : Nat} {S : Nat → ByteArray} {k : Nat} (h : QMap w B m S k) : B < w.heap.size := by
  obtain ⟨D, ho, _⟩ := h
  exact ho.lt

section
variable {w W W' : World} {H m1 m2 cw cs cd B n : Nat} {S : Nat → ByteArray} {win mu : Int}

theorem aft_on (h : Aft w W H m1 m2 cw cs cd B n S win mu) (hb : Below W.heap.size W W') (hfz : ∀ j, W'.frozen? ⟨H, j, none⟩ = W.frozen? ⟨H, j, none⟩) : Aft w W' H m1 m2 cw cs cd B n S win mu := by
  have hH : H < W.heap.size := World.block_lt_of_cell? _ _ h.r4
  have c : ∀ j, W'.cell? ⟨H, j, none⟩ = W.cell? ⟨H, j, none⟩ := fun j => hb.cell (p := ⟨H, j, none⟩) hH
  have b : ∀ k {o : Obj}, W.heap[k]? = some o → W'.heap[k]? = some o := fun k o hk => (hb.block k (lt_of_heap hk)).trans hk
  exact ⟨(c 4).trans h.r4, (c 5).trans h.r5, (c 7).trans h.r7, (c 8).trans h.r8, (c 9).trans h.r9, (c 10).trans h.r10, (c 11).trans h.r11, (c 12).trans h.r12, (c 13).trans h.r13, (c 14).trans h.r14, fun j => (hfz j).trans (h.fz j),
    b _ h.hm1, b _ h.hm2, b _ h.hcw, b _ h.hcs, b _ h.hcd, h.row.of_block (hb.block _ h.row.lt), qmap_on h.qm (hb.block _ (qmap_lt h.qm)), h.nm1, h.nm2, h.ncw, h.ncs, h.ncd, h.nrow, h.nB, h.low, h.below.trans (hb.mono h.below.size)⟩

theorem aft_alloc (h : Aft w W H m1 m2 cw cs cd B n S win mu) (o : Obj) : Aft w (W.alloc o) H m1 m2 cw cs cd B n S win mu :=
  have hb := (Below.refl W.heap.size W).alloc (Nat.le_refl _) o
  aft_on h hb fun j => hb.frozen (p := ⟨H, j, none⟩) (show H < W.heap.size from World.block_lt_of_cell? _ _ h.r4)

theorem aft_drewN (h : Aft w W H m1 m2 cw cs cd B n S win mu) (m : Nat) : Aft w (W.drewN m) H m1 m2 cw cs cd B n S win mu :=
  aft_on h (below_drewN (Below.refl _ _) m) fun _ => rfl

theorem aft_mu (h : Aft w W H m1 m2 cw cs cd B n S win mu) (x : Int) : Aft w (W.setCell ⟨H, 5, none⟩ (.int .i32 x)) H m1 m2 cw cs cd B n S win x := by
  have o : ∀ j, j ≠ 5 → (W.setCell ⟨H, 5, none⟩ (.int .i32 x)).cell? ⟨H, j, none⟩ = W.cell? ⟨H, j, none⟩ := fun j hj => World.cell?_setCell_other W ⟨H, 5, none⟩ ⟨H, j, none⟩ _ (fun e => hj (by injection e with e1 e2; exact e2.symm))
  have b : ∀ k, k ≠ H → (W.setCell ⟨H, 5, none⟩ (.int .i32 x)).heap[k]? = W.heap[k]? := fun k hk => Below.heap_setCell _ _ _ _ hk
  exact ⟨(o 4 (by omega)).trans h.r4, World.cell?_setCell_same W ⟨H, 5, none⟩ _ h.r5, (o 7 (by omega)).trans h.r7, (o 8 (by omega)).trans h.r8, (o 9 (by omega)).trans h.r9, (o 10 (by omega)).trans h.r10, (o 11 (by omega)).trans h.r11, (o 12 (by omega)).trans h.r12, (o 13 (by omega)).trans h.r13, (o 14 (by omega)).trans h.r14,
    fun j => by rw [World.frozen?_setCell]; exact h.fz j, (b _ h.nm1).trans h.hm1, (b _ h.nm2).trans h.hm2, (b _ h.ncw).trans h.hcw, (b _ h.ncs).trans h.hcs, (b _ h.ncd).trans h.hcd, h.row.of_block (b _ h.nrow), qmap_on h.qm (b _ h.nB), h.nm1, h.nm2, h.ncw, h.ncs, h.ncd, h.nrow, h.nB, h.low, h.below.setCell (p := ⟨H, 5, none⟩) h.low _⟩
end

/-- What Close asks for, and what stands when it has returned. -/
theorem after_close {w w2 wr wd wc : World} {n : Nat} {S : Nat → ByteArray} {win : Int} {st : Bool} {H m1 m2 cw cs : Nat}
    (hrow : w2.rowIs w.heap.size 9 n (fun i => .string (S i))) (hb : Below w.heap.size w w2) (hq : QMap wr w2.heap.size n S n) (hbk : Below w2.heap.size w2 wr) (hwd : wd = (wr.alloc (.chan 0 #[] false 0 0 false)).setChan wr.heap.size 0 #[] true 0 0 false)
    (hH : wc.heap[H]? = some (.cells #[.pointer none, .pointer none, .pointer none, .pointer none, .int .i64 win, .int .i32 0, .int .u32 0, .slice (some ⟨w.heap.size, 0, none⟩) n n, .map (some w2.heap.size), .map (some m1), .map (some m2), .bool st, .chan (some cw), .chan (some cs), .chan (some wr.heap.size)] 40 (0, 0)))
    (hm1 : wc.heap[m1]? = some (.map #[] 0)) (hm2 : wc.heap[m2]? = some (.map #[] 0)) (hcw : wc.heap[cw]? = some (.chan 1 #[] false 0 0 false)) (hcs : wc.heap[cs]? = some (.chan 0 #[] false 0 0 false))
    (hHl : wd.heap.size ≤ H) (hcl : wd.heap.size ≤ cs) (hbc : Below wd.heap.size wd wc) :
    wc.heap[wr.heap.size]? = some (.chan 0 #[] true 0 0 false) ∧ cs ≠ wr.heap.size ∧ cs ≠ H ∧ wr.heap.size ≠ H ∧
    Aft w ((((wc.setCell ⟨H, 5, none⟩ (.int .i32 1)).setCell ⟨H, 11, none⟩ (.bool true)).setCell ⟨H, 5, none⟩ (.int .i32 0)).setChan cs 0 #[] true 0 0 false) H m1 m2 cw cs wr.heap.size w2.heap.size n S win 0 := by
  have sz : (wr.alloc (.chan 0 #[] false 0 0 false)).heap.size = wr.heap.size + 1 := World.size_alloc _ _
  have szd : wd.heap.size = wr.heap.size + 1 := by rw [hwd, size_setChan, sz]
  have hbd : Below wr.heap.size wr wd := by
    rw [hwd]
    exact below_setChan ((Below.refl _ _).alloc (Nat.le_refl _) _) (Nat.le_refl _) _ _ _ _ _ _
  have hd : wd.heap[wr.heap.size]? = some (.chan 0 #[] true 0 0 false) := by
    rw [hwd]
    exact heap_setChan _ _ _ _ _ _ _ _ (by omega)
  have z1 := hb.size
  have z2 := hbk.size
  have z3 := hrow.lt
  have z4 := qmap_lt hq
  have hdc : wc.heap[wr.heap.size]? = some (.chan 0 #[] true 0 0 false) := (hbc.block _ (by omega)).trans hd
  have n1 : cs ≠ wr.heap.size := by omega
  have n2 : cs ≠ H := fun e => by rw [e, hH] at hcs; cases hcs
  have n3 : wr.heap.size ≠ H := by omega
  have ncw : cw ≠ H := fun e => by rw [e, hH] at hcw; cases hcw
  have nm1 : m1 ≠ H := fun e => by rw [e, hH] at hm1; cases hm1
  have nm2 : m2 ≠ H := fun e => by rw [e, hH] at hm2; cases hm2
  have kcw : cw ≠ cs := fun e => by rw [e, hcs] at hcw; simp at hcw
  have km1 : m1 ≠ cs := fun e => by rw [e, hcs] at hm1; cases hm1
  have km2 : m2 ≠ cs := fun e => by rw [e, hcs] at hm2; cases hm2
  refine ⟨hdc, n1, n2, n3, ?_⟩
  have h1 := heap_setCell_same wc H 5 _ 40 (.int .i32 1) hH
  have h2 := heap_setCell_same _ H 11 _ 40 (.bool true) h1
  have h3 := heap_setCell_same _ H 5 _ 40 (.int .i32 0) h2
  have h4 := (heap_setChan_ne (cap := 0) (buf := #[]) (cl := true) (s := 0) (r := 0) (tm := false) (((wc.setCell ⟨H, 5, none⟩ (.int .i32 1)).setCell ⟨H, 11, none⟩ (.bool true)).setCell ⟨H, 5, none⟩ (.int .i32 0)) (Ne.symm n2)).trans h3
  have oth : ∀ b, b ≠ H → b ≠ cs → ((((wc.setCell ⟨H, 5, none⟩ (.int .i32 1)).setCell ⟨H, 11, none⟩ (.bool true)).setCell ⟨H, 5, none⟩ (.int .i32 0)).setChan cs 0 #[] true 0 0 false).heap[b]? = wc.heap[b]? := fun b hb1 hb2 => by
    rw [heap_setChan_ne _ hb2, Below.heap_setCell _ _ _ _ hb1, Below.heap_setCell _ _ _ _ hb1, Below.heap_setCell _ _ _ _ hb1]
  have hcsl := lt_of_heap hcs
  have bel : Below wd.heap.size wd ((((wc.setCell ⟨H, 5, none⟩ (.int .i32 1)).setCell ⟨H, 11, none⟩ (.bool true)).setCell ⟨H, 5, none⟩ (.int .i32 0)).setChan cs 0 #[] true 0 0 false) :=
    below_setChan (((hbc.setCell (p := ⟨H, 5, none⟩) hHl _).setCell (p := ⟨H, 11, none⟩) hHl _).setCell (p := ⟨H, 5, none⟩) hHl _) hcl _ _ _ _ _ _
  have c : ∀ (j : Nat) (v : Value), (#[Value.pointer none, .pointer none, .pointer none, .pointer none, .int .i64 win, .int .i32 0, .int .u32 0, .slice (some ⟨w.heap.size, 0, none⟩) n n, .map (some w2.heap.size), .map (some m1), .map (some m2), .bool true, .chan (some cw), .chan (some cs), .chan (some wr.heap.size)] : Array Value)[j]? = some v →
      ((((wc.setCell ⟨H, 5, none⟩ (.int .i32 1)).setCell ⟨H, 11, none⟩ (.bool true)).setCell ⟨H, 5, none⟩ (.int .i32 0)).setChan cs 0 #[] true 0 0 false).cell? ⟨H, j, none⟩ = some v := fun j v hv => by
    simp only [World.cell?, h4]
    simpa using hv
  refine ⟨c 4 _ rfl, c 5 _ rfl, c 7 _ rfl, c 8 _ rfl, c 9 _ rfl, c 10 _ rfl, c 11 _ rfl, c 12 _ rfl, c 13 _ rfl, c 14 _ rfl, fun j => by simp [World.frozen?, h4], (oth _ nm1 km1).trans hm1, (oth _ nm2 km2).trans hm2, (oth _ ncw kcw).trans hcw,
    heap_setChan _ _ _ _ _ _ _ _ ?_, (oth _ n3 (Ne.symm n1)).trans hdc, ?_, ?_, nm1, nm2, ncw, n2, n3, by omega, by omega, by omega, ?_⟩
  · have e : ∀ (W : World) (a : Addr) (v : Value), (W.setCell a v).heap.size = W.heap.size := fun W a v => by simp [World.setCell]
    rw [e, e, e]; exact hcsl
  · exact ((hrow.of_block (hbk.block _ z3)).of_block (hbd.block _ (by omega))).of_block (bel.block _ (by omega))
  · exact qmap_on (qmap_on hq (hbd.block _ z4)) (bel.block _ (by omega))
  · exact ((hb.trans (hbk.mono z1)).trans (hbd.mono (by omega))).trans (bel.mono (by omega))
end Go.Proofs.Ybulkcbdy
