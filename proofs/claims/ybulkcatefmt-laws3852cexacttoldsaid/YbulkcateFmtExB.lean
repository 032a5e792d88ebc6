/-
  THE WALK of 'LawS3852CExact' (function 3).
-/
import Derived.Test.YbulkcateFmtExA
import Derived.Deep.DeepCutAuto
import Derived.Deep.OwnRows
import Derived.WalkSpells
import Derived.Lib.SliceRun
namespace Go.Proofs.YbulkcateFmt
open Go.ChangeShapes Go.WideShapes Go.ChangeAt Go.RowKit
open Go.Extern.Stop Go.Stop Go.Extern

theorem Ybaf.size5 : (Ybaf.prog.info? 5).map (·.size) = some 1 := by kernel_rfl

theorem make0 (n : Nat) (hn : n ≤ 100000) (w : World) : (Instr.makeSlice 22 (.int .i64 0) (.int .i64 (n : Int))).run Ybaf.prog w = .ok (.slice (some ⟨w.heap.size, 0, none⟩) 0 n) (w.alloc (.cells (madeCells #[.int .u8 0] n) 5)) := by
  obtain ⟨i, hi, hz0, hz1, hz2⟩ := info_parts Ybaf.info5
  have hr := run_make (P := Ybaf.prog) w 22 5 i (.int .u8 0) Ybaf.underlying22 hi hz0 .i64 .i64 0 n (by omega) (by omega) (by rw [hz2]; omega) (by omega)
  simp only [Int.toNat_natCast, hz1, Nat.mul_one] at hr
  exact hr

theorem make21 (n : Nat) (hn : n ≤ 1024) (w : World) : (Instr.makeSlice 22 (.int .i64 0) (.int .i64 ((n : Int) + 21))).run Ybaf.prog w = .ok (.slice (some ⟨w.heap.size, 0, none⟩) 0 (n + 21)) (w.alloc (.cells (madeCells #[.int .u8 0] (n + 21)) 5)) := by
  have h := make0 (n + 21) (by omega) w
  rw [show ((n + 21 : Nat) : Int) = (n : Int) + 21 by omega] at h
  exact h

/-- What is owned stays owned where no old block turns. -/
theorem own_below {w w' : World} {base n : Nat} {v : Value} {xs : List Value} (h : w.ownsRow base 5 1 v n xs) (hb : Below w.heap.size w w') : w'.ownsRow base 5 1 v n xs := by
  have hlt := h.lt
  obtain ⟨h1, h2⟩ := h
  refine ⟨h1, ?_⟩
  rcases h2 with h2 | ⟨g, cap, cur, hv, hg, hh, r⟩
  · exact .inl h2
  · exact .inr ⟨g, cap, cur, hv, hg, by rw [hb.block g (hlt g (by rw [hv]; rfl)).2]; exact hh, r⟩

/-- The copy that the law hands in. -/
def Copied (w wx : World) (a0 : Option Addr) (len : Nat) (L : List UInt8) (v : Value) : Prop :=
  ∃ ao cap, v = .slice ao len cap ∧ ao.isNone = a0.isNone ∧ wx.ownsRow w.heap.size 5 1 v len (bc L) ∧ Below w.heap.size w wx

theorem copy_in (w : World) (ad : Addr) (len cap : Nat) (L : List UInt8) (hA : ArgB w (some ad) len cap L) (hlen : len ≤ 1024) :
    ∃ w2, (Builtin.copy_ #[22, 22] 3 #[.slice (some ⟨w.heap.size, 0, none⟩) len len, .slice (some ad) len cap]).run Ybaf.prog (w.alloc (.cells (madeCells #[.int .u8 0] len) 5)) = .ok (goInt len) w2 ∧
      w2.ownsRow w.heap.size 5 1 (.slice (some ⟨w.heap.size, 0, none⟩) len len) len (bc L) ∧ Below w.heap.size w w2 := by
  have hl := hA.length
  have hbl : (bc L).length = len := by rw [bc_length]; exact hl
  have hb1 : Below w.heap.size w (w.alloc (.cells (madeCells #[.int .u8 0] len) 5)) := (Below.refl _ _).alloc (Nat.le_refl _) _
  have hsz : (madeCells #[Value.int .u8 0] len).size = len := size_madeCells _ _
  have hone : ∀ v ∈ bc L, v.oneCell' = true := fun u hu => by
    obtain ⟨_, _, rfl⟩ := List.mem_map.1 hu
    rfl
  have hr := run_copy_row (P := Ybaf.prog) (w.alloc (.cells (madeCells #[.int .u8 0] len) 5)) 22 22 3 5 w.heap.size 0 len len ad len cap (madeCells #[.int .u8 0] len) 5 (bc L) Ybaf.underlying22 Ybaf.size5
    (heap_alloc_new w _) (by rw [hbl]; exact (Nat.min_self len).symm) (hA.on hb1 |>.cells ad rfl) (by rw [hsz, hbl]; omega) hone
  rw [hbl] at hr
  refine ⟨_, hr, ⟨by omega, .inr ⟨w.heap.size, len, (bc L).toArray, rfl, Nat.le_refl _, ?_, Nat.le_refl _, by unfold maxLen; omega, by simp [bc_length, hl], ?_⟩⟩, below_setRow hb1 (Nat.le_refl _) _⟩
  · have := setRow_heap (w.alloc (.cells (madeCells #[.int .u8 0] len) 5)) w.heap.size _ ((madeCells #[.int .u8 0] len).toList.take 0 ++ bc L ++ (madeCells #[.int .u8 0] len).toList.drop (0 + len)).toArray 5 (0, 0) (heap_alloc_new w _)
    rw [this]
    have hdr : (madeCells #[Value.int .u8 0] len).toList.drop (0 + len) = [] := List.drop_eq_nil_of_le (by rw [Array.length_toList, hsz]; omega)
    rw [hdr]
    simp
  · simp [bc_length, hl, List.take_of_length_le]

set_option maxHeartbeats 2000000 in
set_option maxRecDepth 100000 in
theorem exact_any (F : Interp) (a0 : Option Addr) (len cap : Nat) (L : List UInt8) (wall : Int) (c : Nat) (a : Addr) (s : ByteArray) (w : World) (hF : F.answers w.tape) (hlen : len ≤ 1024) (hA : ArgB w a0 len cap L)
    (hw1 : -9223372036854775808 ≤ wall) (hw2 : wall < 9223372036854775808) (hc : c < 4294967296)
    (hg : w.cell? ⟨0, 0, none⟩ = some (.iface 66 (.pointer (some a)))) (hs : w.cell? a = some (.string s)) :
    Calls Ybaf.prog 3 #[.slice a0 len cap, .int .i64 wall, .int .u32 c] w fun e w' => e = .returned (.bool true) ∧ Below w.heap.size w w' := by
  have HA := hd hA
  have HGV := hd hg
  have HSV := hd hs
  have HF := hd hF
  have HLL := hd hA.length
  clear hA hg hs hF
  go_enter Ybaf.func3, Ybaf.ntmps3
  go_upto_if 16 with (fail)
  go_cut [7] (fun v wx => Copied w wx a0 len L v)
  case first =>
    cases a0 with
    | none =>
      go_wp2
      go_meet
      case rel =>
        obtain ⟨rfl, rfl⟩ := HA.out.nil rfl
        have hL0 : L = [] := List.eq_nil_of_length_eq_zero HLL.out
        subst hL0
        exact ⟨none, 0, rfl, rfl, World.ownsRow_nil _ _ _ _, Below.refl _ _⟩
    | some ad =>
      have hmk := run_make_row' (P := Ybaf.prog) 22 5 (.int .u8 0) 1 Ybaf.underlying22 Ybaf.info5 rfl .i64 .i64 len (by omega) (by omega)
      obtain ⟨w2, hcp, hown, hbel⟩ := copy_in w ad len cap L HA.out hlen
      have HO := hd hown
      have HB := hd hbel
      clear hown hbel
      go_wp2
      go_meet
      case rel => exact ⟨_, _, rfl, rfl, HO.out, HB.out⟩
  case rest =>
    obtain ⟨ao, cap1, rfl, hao, hown, hbel⟩ := hcut
    have HAO := hd hao
    clear hao
    by_cases hneg : wall < 0
    · have l0 : 0 < w.heap.size := World.block_lt_of_cell? _ _ HGV.out
      have la : a.block < w.heap.size := World.block_lt_of_cell? _ _ HSV.out
      have hz := hbel.size
      have hb1 : Below w.heap.size w (wc.alloc (.cells #[.int .i64 wall, .int .u32 (c : Int)] 25)) := hbel.alloc (by omega) _
      have C := append5_neg F wall c (.slice ao len cap1) a s (wc.alloc (.cells #[.int .i64 wall, .int .u32 (c : Int)] 25)) (by rw [hb1.tape]; exact HF.out) hneg ((hb1.cell (p := ⟨0, 0, none⟩) l0).trans HGV.out) ((hb1.cell la).trans HSV.out)
      have HC := hd C
      have HO := hd (own_below hown ((Below.refl _ _).alloc (Nat.le_refl _) (.cells #[.int .i64 wall, .int .u32 (c : Int)] 25)))
      have HB := hd hb1
      have hz1 : w.heap.size ≤ (wc.alloc (.cells #[.int .i64 wall, .int .u32 (c : Int)] 25)).heap.size := hb1.size
      have HZ := hd hz1
      clear C hb1 hown hbel hz1
      go_wp2_with fail
      refine HC.out.mono ?_
      rintro e w2 ⟨k, rfl, hk1, hb2⟩
      have H2 := hd (HB.out.trans (hb2.mono HZ.out))
      have HO2 := hd (own_below HO.out hb2)
      have HK := hd hk1
      have g2 : w2.cell? ⟨0, 0, none⟩ = some (.iface 66 (.pointer (some a))) := (H2.out.cell (p := ⟨0, 0, none⟩) l0).trans HGV.out
      clear hk1 hb2 HC
      go_wp2_with fail
      refine (is_wrap_same k 0 a w2 HK.out).mono ?_
      rintro e w3 ⟨rfl, hw⟩
      subst w3
      obtain ⟨bn, hbn, hbn'⟩ : ∃ b : Bool, ao.isNone = b ∧ a0.isNone = b := ⟨_, HAO.out, rfl⟩
      have hn1 := Lib.run_eql_slice_nil (P := Ybaf.prog) w2 22 5 ao len cap1 0 0 Ybaf.underlying22
      have hn2 := Lib.run_eql_slice_nil (P := Ybaf.prog) w2 22 5 a0 len cap 0 0 Ybaf.underlying22
      rw [hbn] at hn1
      rw [hbn'] at hn2
      have hbb : (bn != bn) = false := by simp
      go_wp2_with fail
      refine (equal7 _ _ ⟨L.toArray⟩ w2 (own_spells HO2.out) (HA.out.on H2.out).spells).mono ?_
      rintro e w3 ⟨rfl, hw⟩
      subst w3
      go_wp2
      go_ret
      exact ⟨rfl, H2.out⟩
    · obtain ⟨wn, hwn⟩ := Int.eq_ofNat_of_zero_le (show 0 ≤ wall by omega)
      subst hwn
      have hwn : wn < 9223372036854775808 := by omega
      have hwe : ((wn : Int) < 0) = False := by simp
      clear hw1 hw2 hneg
      obtain ⟨i0, hi0, hz0, hz1, hz2⟩ := info_parts Ybaf.info5
      have hz := hbel.size
      have hvl := hown.lt
      have hb1 : Below w.heap.size w (wc.alloc (.cells #[.int .i64 (wn : Int), .int .u32 (c : Int)] 25)) := hbel.alloc (by omega) _
      have C := append5 w.heap.size len wn c (.slice ao len cap1) (bc L) (wc.alloc (.cells #[.int .i64 (wn : Int), .int .u32 (c : Int)] 25)) (hown.alloc _) (by rw [World.size_alloc]; omega) (by omega) (by omega) hc
      have HC := hd C
      have HB := hd hb1
      have HVL := hd hvl
      clear C hb1 hown hbel hvl
      have hmk := make21 len hlen
      have hTL := ts_length (wall := wn) (c := c) (by omega) (by omega)
      go_wp2_with fail
      refine HC.out.mono ?_
      rintro e w2 ⟨g, cap2, rfl, G⟩
      have H2 : Hid (Below w.heap.size w w2) := HB.out.grown G.2.1 (by rw [World.size_alloc]; omega) (fun k hk => (HVL.out k hk).1)
      have hz2' : w.heap.size ≤ w2.heap.size := H2.out.size
      have HG := hd G
      clear G HC
      have HM : Hid ((w2.alloc (.cells (madeCells #[.int .u8 0] (len + 21)) 5)).ownsRow w.heap.size 5 1 (.slice (some ⟨w2.heap.size, 0, none⟩) 0 (len + 21)) 0 []) := World.ownsRow_made w2 _ _ hz2' (by unfold maxLen; omega) (by rw [size_madeCells]; omega)
      have HAW := hd (HA.out.on (H2.out.alloc hz2' (.cells (madeCells #[.int .u8 0] (len + 21)) 5)))
      go_wp2_with (at_builtin; (refine wpList_append_fits_any _ rfl _ _ 22 rfl w.heap.size 5 i0 1 Ybaf.underlying22 hi0 hz1 w2.heap.size 0 (len + 21) [] rfl HM.out a0 len cap (bc L) rfl (by rw [bc_length, HLL.out, Nat.mul_one]) HAW.out.nil HAW.out.cells (fun u hu => by obtain ⟨_, _, rfl⟩ := List.mem_map.1 hu; rfl) (by omega) ?_; intro w3 hown3 hgrow3; refine Hid.out ?_))
      refine hd ?_
      rw [Nat.zero_add, List.nil_append] at hown3
      have G3 : Grew w.heap.size (.slice (some ⟨w2.heap.size, 0, none⟩) 0 (len + 21)) 0 [] L (w2.alloc (.cells (madeCells #[.int .u8 0] (len + 21)) 5)) w3 (.slice (some ⟨w2.heap.size, 0, none⟩) len (len + 21)) := by
        refine ⟨?_, hgrow3, .inl rfl⟩
        rw [HLL.out, Nat.zero_add, List.nil_append]
        exact hown3
      have hz3 := hgrow3.size
      rw [World.size_alloc] at hz3
      have H3 := hd G3
      have HO3 := hd hown3
      clear G3 hown3 hgrow3 hmk HM HAW
      go_wp2_with (at_builtin; refine wpList_append_lies _ rfl _ _ 22 rfl w.heap.size 5 i0 (.int .u8 0) 1 1 Ybaf.underlying22 hi0 hz0 hz1 hz2 rfl (by decide) (.slice (some ⟨w2.heap.size, 0, none⟩) len (len + 21)) len (bc L) rfl (HO3.out.alloc _) ⟨w3.heap.size, 0, none⟩ 1 1 [.int .u8 3] rfl rfl (World.news_of_block (cs := #[.int .u8 3]) (t := 5) (fr := (0, 0)) (heap_alloc_new w3 _)) (by simp [Value.oneCell']) (by omega) (by unfold maxLen; omega) (by omega) (by simp; omega) (w3.heap.size + 1) (by simp) ?_; intro g4 cap4 w4 hown4 hgrow4 hat4 hlt4; refine Hid.out ?_)
      refine hd ?_
      have G4 := H3.out.step (v2 := .slice (some ⟨g4, 0, none⟩) (len + 1) cap4) 3 (by rw [HLL.out, Nat.zero_add, List.nil_append]; exact hown4) hgrow4 (by
        rcases hat4 with hat | hat
        · exact .inl (by rw [hat]; rfl)
        · exact .inr (by rw [hat]; rfl))
      have hz4 := hgrow4.size
      rw [World.size_alloc] at hz4
      have H4 := hd G4
      have HO4 := hd hown4
      clear G4 hown4 hgrow4 hat4 H3 HO3
      go_wp2_with fail
      refine (append8 w.heap.size (len + 1) wn _ _ w4 HO4.out (by omega) (by omega) (by omega)).mono ?_
      rintro e w5 ⟨g5, cap5, rfl, G5⟩
      have hz5 := G5.2.1.size
      have hL1 := Lib.uvarint_length64 (x := wn) (by omega)
      have HG5 := hd G5
      clear G5
      go_wp2_with fail
      refine (append8 w.heap.size _ c _ _ w5 HG5.out.1 (by omega) (by omega) (by omega)).mono ?_
      rintro e w6 ⟨g6, cap6, rfl, G6⟩
      have HG6 := hd G6
      clear G6
      go_wp2_with fail
      have r4 : ∀ k, (Value.slice (some ⟨g4, 0, none⟩) (len + 1) cap4).ownBlock = some k → w2.heap.size ≤ k := fun k hk => by
        rcases H4.out.2.2 with h | ⟨q, h, hq⟩
        · rw [h] at hk
          have : w2.heap.size = k := by simpa [Value.ownBlock] using hk
          omega
        · rw [h] at hk
          have : q = k := by simpa using hk
          rw [World.size_alloc] at hq
          omega
      have r5 : ∀ k, (Value.slice (some ⟨g5, 0, none⟩) (len + 1 + (Lib.uvarint wn).length) cap5).ownBlock = some k → w2.heap.size ≤ k := fun k hk => by
        rcases HG5.out.2.2 with h | ⟨q, h, hq⟩
        · rw [h] at hk
          exact r4 k hk
        · rw [h] at hk
          have : q = k := by simpa using hk
          omega
      have hb4 : Below w2.heap.size w2 w4 := ((Below.refl _ _).alloc (Nat.le_refl _) _).grown H4.out.2.1 (by rw [World.size_alloc]; omega) (fun k hk => by
        have : w2.heap.size = k := by simpa [Value.ownBlock] using hk
        omega)
      have hb6 : Below w2.heap.size w2 w6 := (hb4.grown HG5.out.2.1 (by omega) r4).grown HG6.out.2.1 (by omega) r5
      have o1 := own_below HG.out.1 hb6
      have o2 := HG6.out.1
      rw [← bc_append] at o1
      have e2 : bc L ++ [Value.int .u8 3] ++ bc (Lib.uvarint wn) ++ bc (Lib.uvarint c) = bc (L ++ tsBytes wn c) := by
        rw [bc_append]
        simp [bc, tsBytes]
      rw [e2] at o2
      have H6 := hd (H2.out.trans (hb6.mono hz2'))
      refine (equal7 _ _ ⟨(L ++ tsBytes wn c).toArray⟩ w6 (own_spells o1) (own_spells o2)).mono ?_
      rintro e w7 ⟨rfl, hw⟩
      subst w7
      clear r4 r5 hb4 hb6 o1 o2 e2
      go_wp2
      go_ret
      exact ⟨rfl, H6.out⟩
end Go.Proofs.YbulkcateFmt
