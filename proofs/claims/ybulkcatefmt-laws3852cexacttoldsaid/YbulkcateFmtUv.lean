/-
  THE CONTRACTS of the two varint writers: 'zzs3852cuv' (function 8) and 'encoding/binary.AppendUvarint' (function 12): one text. Onto a slice that the call owns.
-/
import Derived.Test.YbulkcateFmtRows
import Derived.WalkKit
import Derived.ProofKit
import Derived.WalkLawsBesides
import Derived.Deep.AppendLies
import Derived.Lib.Varint
namespace Go.Proofs.YbulkcateFmt
open Go.ChangeShapes Go.WideShapes Go.ChangeAt Go.RowKit

theorem hd {p : Prop} (h : p) : Hid p := h
theorem Ybaf.info5 : (Ybaf.prog.info? 5).map (fun i => (i.zero, i.size, i.bytes)) = some (some (.int .u8 0), 1, 1) := by kernel_rfl

/-- Bytes as cells. -/
def bc (l : List UInt8) : List Value := l.map fun b => .int .u8 (b.toNat : Int)
theorem bc_append (a b : List UInt8) : bc (a ++ b) = bc a ++ bc b := List.map_append
theorem bc_length (a : List UInt8) : (bc a).length = a.length := List.length_map _

/-- What an appender leaves: the new value g, cap; what it owns; what may have turned. -/
def Grew (base : Nat) (v : Value) (n : Nat) (xs : List Value) (l : List UInt8) (w w' : World) (v' : Value) : Prop :=
  w'.ownsRow base 5 1 v' (n + l.length) (xs ++ bc l) ∧ w.grownBy w' v.ownBlock ∧ (v'.ownBlock = v.ownBlock ∨ ∃ g, v'.ownBlock = some g ∧ w.heap.size ≤ g)

theorem Grew.refl {base : Nat} {v : Value} {n : Nat} {xs : List Value} {w : World} (h : w.ownsRow base 5 1 v n xs) : Grew base v n xs [] w w v :=
  ⟨by simpa [bc] using h, World.grownBy.refl _ _, .inl rfl⟩

/-- One append more: 'append(b, c)': the element lies in a block of its own first. -/
theorem Grew.step {base : Nat} {v : Value} {n : Nat} {xs : List Value} {l : List UInt8} {w wr w1 : World} {v1 v2 : Value} {o : Obj} (c : UInt8) (h : Grew base v n xs l w wr v1)
    (hown : w1.ownsRow base 5 1 v2 (n + l.length + 1) ((xs ++ bc l) ++ [.int .u8 (c.toNat : Int)])) (hg : (wr.alloc o).grownBy w1 v1.ownBlock) (hat : v1.ownBlock = v2.ownBlock ∨ v2.ownBlock = some (wr.heap.size + 1)) :
    Grew base v n xs (l ++ [c]) w w1 v2 := by
  obtain ⟨_, h2, h3⟩ := h
  have hz := h2.size
  have hz1 : (wr.alloc o).heap.size = wr.heap.size + 1 := World.size_alloc _ _
  refine ⟨?_, ⟨hg.os.trans h2.os, hg.tape.trans h2.tape, hg.output.trans h2.output, ?_, fun k hk hne => ?_⟩, ?_⟩
  · rw [List.length_append, bc_append, ← List.append_assoc]
    exact hown
  · have := hg.size
    omega
  · rw [hg.block k (by omega) ?_, Below.heap_alloc _ _ _ (by omega), h2.block k hk hne]
    intro e
    rcases h3 with h3 | ⟨g, h3, hge⟩
    · exact hne (e.trans h3)
    · rw [h3] at e
      have : k = g := by simpa using e
      omega
  · rcases hat with hat | hat
    · rw [← hat]; exact h3
    · exact .inr ⟨_, hat, by omega⟩

theorem Grew.join {base : Nat} {v v1 v2 : Value} {n : Nat} {xs : List Value} {l l2 : List UInt8} {w wr w1 : World} (h : Grew base v n xs l w wr v1) (h2 : Grew base v1 (n + l.length) (xs ++ bc l) l2 wr w1 v2) :
    Grew base v n xs (l ++ l2) w w1 v2 := by
  obtain ⟨_, a2, a3⟩ := h
  obtain ⟨b1, b2, b3⟩ := h2
  have hz := a2.size
  refine ⟨?_, ⟨b2.os.trans a2.os, b2.tape.trans a2.tape, b2.output.trans a2.output, Nat.le_trans a2.size b2.size, fun k hk hne => ?_⟩, ?_⟩
  · rw [List.length_append, bc_append, ← List.append_assoc, ← Nat.add_assoc]
    exact b1
  · rw [b2.block k (by omega) ?_, a2.block k hk hne]
    intro e
    rcases a3 with a3 | ⟨g, a3, hge⟩
    · exact hne (e.trans a3)
    · rw [a3] at e
      have : k = g := by simpa using e
      omega
  · rcases b3 with b3 | ⟨g, b3, hge⟩
    · rw [b3]; exact a3
    · exact .inr ⟨g, b3, by omega⟩

theorem low_or (y : Nat) : bits .or .u8 ((y : Int) % 256) 128 = (((y % 128 + 128).toUInt8.toNat : Nat) : Int) := by
  rw [Lib.u8_or128_any _ (by omega) (by omega)]
  have : (y % 128 + 128).toUInt8.toNat = y % 128 + 128 := by
    rw [UInt8.toNat_ofNat']
    omega
  rw [this]
  omega

theorem low_byte (y : Nat) (h : y < 128) : (y : Int) = ((y.toUInt8.toNat : Nat) : Int) := by
  rw [UInt8.toNat_ofNat']
  omega

set_option maxHeartbeats 400000 in
set_option maxRecDepth 100000 in
theorem append12 (base n x : Nat) (v : Value) (xs : List Value) (w : World) (hown : w.ownsRow base 5 1 v n xs) (hb : base ≤ w.heap.size) (hn : n ≤ 100000) (hx : x < 18446744073709551616) :
    Calls Ybaf.prog 12 #[v, .int .u64 x] w fun e w' => ∃ g cap, e = .returned (.slice (some ⟨g, 0, none⟩) (n + (Lib.uvarint x).length) cap) ∧ Grew base v n xs (Lib.uvarint x) w w' (.slice (some ⟨g, 0, none⟩) (n + (Lib.uvarint x).length) cap) := by
  obtain ⟨i0, hi0, hz0, hz1, hz2⟩ := info_parts Ybaf.info5
  have hL := Lib.uvarint_length64 hx
  go_enter Ybaf.func12, Ybaf.ntmps12
  go_wp2
  go_loopw [0, 1] (fun b t wr => ∃ (y : Nat) (ks : List UInt8), t = .int .u64 y ∧ y < 18446744073709551616 ∧ ks ++ Lib.uvarint y = Lib.uvarint x ∧ Grew base v n xs ks w wr b) (fun _ t _ => (intOf t).toNat)
  case atStart => exact ⟨x, [], rfl, hx, rfl, Grew.refl hown⟩
  case round =>
    obtain ⟨y, ks, rfl, hy, hks, hgr⟩ := hrel
    have hkl : ks.length ≤ 10 := by rw [← hks, List.length_append] at hL; omega
    have HK := hd hks
    have hbw : base ≤ wr.heap.size := Nat.le_trans hb hgr.2.1.size
    have HG := hd hgr
    clear hks hL hgr hown
    by_cases hbig : 128 ≤ y
    · have HY := hd (Lib.uvarint_big hbig)
      have HO := hd (low_or y)
      go_wp2_with (at_builtin; refine wpList_append_lies _ rfl _ _ 22 rfl base 5 i0 (.int .u8 0) 1 1 Ybaf.underlying22 hi0 hz0 hz1 hz2 rfl (by decide) u0 (n + ks.length) (xs ++ bc ks) rfl (HG.out.1.alloc _) ⟨wr.heap.size, 0, none⟩ 1 1 [.int .u8 (bits .or .u8 ((y : Int) % 256) 128)] rfl rfl (World.news_of_block (cs := #[.int .u8 (bits .or .u8 ((y : Int) % 256) 128)]) (t := 5) (fr := (0, 0)) (heap_alloc_new wr _)) (by simp [Value.oneCell']) (by omega) (by unfold maxLen; omega) (by omega) (by simp; omega) (wr.heap.size + 1) (by simp) ?_; intro g cap w1 hown1 hgrow hat hlt)
      go_roundw
      case rel =>
        rw [HO.out] at hown1
        refine ⟨y / 128, ks ++ [(y % 128 + 128).toUInt8], by go_num, by omega, ?_, HG.out.step _ hown1 hgrow ?_⟩
        · rw [List.append_assoc, ← HK.out, HY.out]
          rfl
        · rcases hat with hat | hat
          · exact .inl (by rw [hat]; rfl)
          · exact .inr (by rw [hat]; rfl)
      case measure => simp [intOf]; omega
    · have HY := hd (Lib.uvarint_small (x := y) (by omega))
      have HO := hd (low_byte y (by omega))
      go_wp2_with (at_builtin; refine wpList_append_lies _ rfl _ _ 22 rfl base 5 i0 (.int .u8 0) 1 1 Ybaf.underlying22 hi0 hz0 hz1 hz2 rfl (by decide) u0 (n + ks.length) (xs ++ bc ks) rfl (HG.out.1.alloc _) ⟨wr.heap.size, 0, none⟩ 1 1 [.int .u8 (y : Int)] rfl rfl (World.news_of_block (cs := #[.int .u8 (y : Int)]) (t := 5) (fr := (0, 0)) (heap_alloc_new wr _)) (by simp [Value.oneCell']) (by omega) (by unfold maxLen; omega) (by omega) (by simp; omega) (wr.heap.size + 1) (by simp) ?_; intro g cap w1 hown1 hgrow hat hlt)
      go_ret
      have e : Lib.uvarint x = ks ++ [y.toUInt8] := by rw [← HK.out, HY.out]
      have el : n + ks.length + 1 = n + (Lib.uvarint x).length := by rw [e, List.length_append]; rfl
      rw [HO.out] at hown1
      have G1 := HG.out.step (v2 := .slice (some ⟨g, 0, none⟩) (n + ks.length + 1) cap) _ hown1 hgrow (by
        rcases hat with hat | hat
        · exact .inl (by rw [hat]; rfl)
        · exact .inr (by rw [hat]; rfl))
      rw [← e, el] at G1
      exact ⟨g, cap, by rw [← el]; rfl, G1⟩

set_option maxHeartbeats 400000 in
set_option maxRecDepth 100000 in
theorem append8 (base n x : Nat) (v : Value) (xs : List Value) (w : World) (hown : w.ownsRow base 5 1 v n xs) (hb : base ≤ w.heap.size) (hn : n ≤ 100000) (hx : x < 18446744073709551616) :
    Calls Ybaf.prog 8 #[v, .int .u64 x] w fun e w' => ∃ g cap, e = .returned (.slice (some ⟨g, 0, none⟩) (n + (Lib.uvarint x).length) cap) ∧ Grew base v n xs (Lib.uvarint x) w w' (.slice (some ⟨g, 0, none⟩) (n + (Lib.uvarint x).length) cap) := by
  obtain ⟨i0, hi0, hz0, hz1, hz2⟩ := info_parts Ybaf.info5
  have hL := Lib.uvarint_length64 hx
  go_enter Ybaf.func8, Ybaf.ntmps8
  go_wp2
  go_loopw [0, 1] (fun b t wr => ∃ (y : Nat) (ks : List UInt8), t = .int .u64 y ∧ y < 18446744073709551616 ∧ ks ++ Lib.uvarint y = Lib.uvarint x ∧ Grew base v n xs ks w wr b) (fun _ t _ => (intOf t).toNat)
  case atStart => exact ⟨x, [], rfl, hx, rfl, Grew.refl hown⟩
  case round =>
    obtain ⟨y, ks, rfl, hy, hks, hgr⟩ := hrel
    have hkl : ks.length ≤ 10 := by rw [← hks, List.length_append] at hL; omega
    have HK := hd hks
    have hbw : base ≤ wr.heap.size := Nat.le_trans hb hgr.2.1.size
    have HG := hd hgr
    clear hks hL hgr hown
    by_cases hbig : 128 ≤ y
    · have HY := hd (Lib.uvarint_big hbig)
      have HO := hd (low_or y)
      go_wp2_with (at_builtin; refine wpList_append_lies _ rfl _ _ 22 rfl base 5 i0 (.int .u8 0) 1 1 Ybaf.underlying22 hi0 hz0 hz1 hz2 rfl (by decide) u0 (n + ks.length) (xs ++ bc ks) rfl (HG.out.1.alloc _) ⟨wr.heap.size, 0, none⟩ 1 1 [.int .u8 (bits .or .u8 ((y : Int) % 256) 128)] rfl rfl (World.news_of_block (cs := #[.int .u8 (bits .or .u8 ((y : Int) % 256) 128)]) (t := 5) (fr := (0, 0)) (heap_alloc_new wr _)) (by simp [Value.oneCell']) (by omega) (by unfold maxLen; omega) (by omega) (by simp; omega) (wr.heap.size + 1) (by simp) ?_; intro g cap w1 hown1 hgrow hat hlt)
      go_roundw
      case rel =>
        rw [HO.out] at hown1
        refine ⟨y / 128, ks ++ [(y % 128 + 128).toUInt8], by go_num, by omega, ?_, HG.out.step _ hown1 hgrow ?_⟩
        · rw [List.append_assoc, ← HK.out, HY.out]
          rfl
        · rcases hat with hat | hat
          · exact .inl (by rw [hat]; rfl)
          · exact .inr (by rw [hat]; rfl)
      case measure => simp [intOf]; omega
    · have HY := hd (Lib.uvarint_small (x := y) (by omega))
      have HO := hd (low_byte y (by omega))
      go_wp2_with (at_builtin; refine wpList_append_lies _ rfl _ _ 22 rfl base 5 i0 (.int .u8 0) 1 1 Ybaf.underlying22 hi0 hz0 hz1 hz2 rfl (by decide) u0 (n + ks.length) (xs ++ bc ks) rfl (HG.out.1.alloc _) ⟨wr.heap.size, 0, none⟩ 1 1 [.int .u8 (y : Int)] rfl rfl (World.news_of_block (cs := #[.int .u8 (y : Int)]) (t := 5) (fr := (0, 0)) (heap_alloc_new wr _)) (by simp [Value.oneCell']) (by omega) (by unfold maxLen; omega) (by omega) (by simp; omega) (wr.heap.size + 1) (by simp) ?_; intro g cap w1 hown1 hgrow hat hlt)
      go_ret
      have e : Lib.uvarint x = ks ++ [y.toUInt8] := by rw [← HK.out, HY.out]
      have el : n + ks.length + 1 = n + (Lib.uvarint x).length := by rw [e, List.length_append]; rfl
      rw [HO.out] at hown1
      have G1 := HG.out.step (v2 := .slice (some ⟨g, 0, none⟩) (n + ks.length + 1) cap) _ hown1 hgrow (by
        rcases hat with hat | hat
        · exact .inl (by rw [hat]; rfl)
        · exact .inr (by rw [hat]; rfl))
      rw [← e, el] at G1
      exact ⟨g, cap, by rw [← el]; rfl, G1⟩

end Go.Proofs.YbulkcateFmt
