/-
  THE WALK of 'LawS3852BBuilt' (function 5).
-/
import Derived.Test.YbulkcateWalkSE
import Derived.Deep.OwnRows
import Derived.Laws.IdiomStrings
namespace Go.Proofs.Ybulkcate
open Go.ChangeShapes Go.WideShapes Go.ChangeAt Go.RowKit
open Scan

theorem Yba.info5 : (Yba.prog.info? 5).map (fun i => (i.zero, i.size, i.bytes)) = some (some (.int .u8 0), 1, 1) := by kernel_rfl

theorem table_any (w : World) : Calls Yba.prog 9 #[] w fun e w' => (∃ t : ByteArray, t.size = 8 ∧ e = .returned (.string t)) ∧ w' = w := by
  go_enter Yba.func9, Yba.ntmps9
  go_wp2
  go_ret
  exact ⟨⟨_, by rfl, rfl⟩, rfl⟩

/-- The same two contracts, what is found under two letters. -/
theorem stringEnd_at (s : ByteArray) (f : Nat) (w : World) (hs : s.size ≤ 4096) (hf : f ≤ s.size + 1) {e : Nat} {p : Bool} (h : G s.data.toList f true = (e, p)) :
    Calls Yba.prog 7 #[.string s, .int .i64 f] w fun x w' => x = .returned (.tuple #[.int .i64 e, .bool p]) ∧ w' = w := by
  have := stringEnd_any s f w hs hf
  rw [h] at this
  exact this
theorem model_at (s : ByteArray) (f : Nat) (w : World) (hs : s.size ≤ 4096) (hf : f ≤ s.size + 1) {e : Nat} {p : Bool} (h : G s.data.toList f true = (e, p)) :
    Calls Yba.prog 8 #[.string s, .int .i64 f] w fun x w' => x = .returned (.tuple #[.int .i64 e, .bool p]) ∧ w' = w := by
  have := model_any s f w hs hf
  rw [h] at this
  exact this

/-- No backslash from lo up to k. -/
def Clean (s : ByteArray) (lo k : Nat) : Prop := ∀ j, lo ≤ j → j < k → (h : j < s.size) → ¬ (s[j].toNat : Int) = 92

theorem clean_start (s : ByteArray) (lo : Nat) : Clean s lo lo := fun j h1 h2 _ => by omega
theorem clean_step {s : ByteArray} {lo k : Nat} (hk : k < s.size) (h : ¬ (s[k].toNat : Int) = 92) (c : Clean s lo k) : Clean s lo (k + 1) := by
  intro j h1 h2 hj
  by_cases e : j = k
  · subst e; exact h
  · exact c j h1 (by omega) hj
theorem clean_mono {s : ByteArray} {lo k e : Nat} (h : k ≤ e) (c : Clean s lo e) : Clean s lo k := fun j h1 h2 hj => c j h1 (by omega) hj

/-- What the law asks of the end and of 'plain'. -/
theorem found (s : ByteArray) (f : Nat) : ∃ (e : Nat) (p : Bool), G s.data.toList f true = (e, p) ∧ min f s.size ≤ e ∧ e ≤ s.size ∧
    ((h : e < s.size) → ((s[e].toNat : Int) = 34 ∨ (s[e].toNat : Int) < 32)) ∧ (p = true ↔ Clean s (min f s.size) e) := by
  obtain ⟨a1, a2, a3, a4⟩ := G_facts s.data.toList f
  have hl : s.data.toList.length = s.size := by simp
  rw [hl] at a1 a2
  have hm : min f s.data.toList.length = min f s.size := by rw [hl]
  refine ⟨(G s.data.toList f true).1, (G s.data.toList f true).2, rfl, a1, a2, fun h => ?_, ?_⟩
  · have b := a3 (by rw [hl]; exact h)
    have b' : s[(G s.data.toList f true).1] = 34 ∨ s[(G s.data.toList f true).1] < 32 := b
    rcases b' with b' | b'
    · left; rw [b']; rfl
    · right
      rw [UInt8.lt_iff_toNat_lt] at b'
      have : (32 : UInt8).toNat = 32 := rfl
      omega
  · rw [a4]
    constructor
    · intro h j h1 h2 hj e
      exact h j (by omega) h2 (by rw [hl]; exact hj) (byte_eq _ 92 e (by decide))
    · intro h j h1 h2 hj e
      have hj' : j < s.size := by rw [← hl]; exact hj
      have e' : s[j] = 92 := e
      exact h j (by omega) h2 hj' (by rw [e']; rfl)

theorem same_bool {p nb : Bool} {c : Prop} (h1 : p = true ↔ c) (h2 : nb = true ↔ c) : p = nb := by
  rw [Bool.eq_iff_iff, h1, h2]

theorem add_block (a : Addr) (n : Nat) : (a.add n).block = a.block := by unfold Addr.add; split <;> rfl

/-- The row of bytes as a string. -/
theorem row_string (b n : Nat) (B : Nat → UInt8) (wr : World) (hrow : wr.rowIs b 5 n (fun j => .int .u8 ((B j).toNat : Int))) :
    ∃ s : ByteArray, s.size = n ∧ (convert 23 9 (.slice (some ⟨b, 0, none⟩) n n)).run Yba.prog wr = .ok (.string s) wr := by
  have h := run_convert_bytes_back (P := Yba.prog) wr 23 9 5 ⟨b, 0, none⟩ n ((List.range n).map B) Yba.underlying23 Yba.underlying5 Yba.underlying9 (fun j hj => by
    have hj' : j < n := by simpa using hj
    have := hrow.cell hj'
    rw [show (⟨b, 0, none⟩ : Addr).add j = ⟨b, j, none⟩ by unfold Addr.add; split <;> simp_all]
    simpa using this)
  rw [List.length_map, List.length_range] at h
  exact ⟨_, by show (List.map B (List.range n)).toArray.size = n; simp, h⟩

theorem from_in (x : Int) (n : Nat) : ∃ f : Nat, f ≤ n + 1 ∧ x % ((n : Int) + 2) = f := by
  have h1 := Int.emod_nonneg x (show (n : Int) + 2 ≠ 0 by omega)
  have h2 := Int.emod_lt_of_pos x (show 0 < (n : Int) + 2 by omega)
  exact ⟨(x % ((n : Int) + 2)).toNat, by omega, by omega⟩

set_option maxHeartbeats 1000000 in
theorem built_any (a0 : Option Addr) (len0 cap0 : Nat) (z0 : List Int) (a1 : Int) (w : World) (hle : len0 ≤ 4096)
    (hcell : ∀ k, k < len0 → ∃ x, a0 = some x ∧ w.cell? (x.add k) = some (.int .u8 (z0.getD k 0)) ∧ 0 ≤ z0.getD k 0 ∧ z0.getD k 0 ≤ 255 ∧ x.block < w.heap.size) (h0 : 0 ≤ a1) (h1 : a1 ≤ 255) :
    Calls Yba.prog 5 #[.slice a0 len0 cap0, .int .u8 a1] w fun e w' => e = .returned (.bool true) ∧ Below w.heap.size w w' := by
  have hmk := run_make_row' (P := Yba.prog) 23 5 (.int .u8 0) 1 Yba.underlying23 Yba.info5 rfl .i64 .i64 len0 (by omega) (by omega)
  go_enter Yba.func5, Yba.ntmps5
  go_wp2_with (first | (go_at_call 9; refine (table_any _).mono ?_; rintro e w2 ⟨⟨t, ht, rfl⟩, hw⟩; subst w2))
  go_loopw [7] (fun i wr => ∃ (k : Nat) (B : Nat → UInt8), k ≤ len0 ∧ i = .int .i64 k ∧ wr.rowIs w.heap.size 5 len0 (fun j => .int .u8 ((B j).toNat : Int)) ∧ Below w.heap.size w wr) (fun i _ => len0 - (intOf i).toNat)
  case atStart => exact ⟨0, fun _ => 0, Nat.zero_le _, rfl, World.rowIs_made _ _ _ _, (Below.refl _ _).alloc (Nat.le_refl _) _⟩
  case round =>
    obtain ⟨k, B, hk, rfl, hrow, hbel⟩ := hrel
    by_cases hlt : k < len0
    · obtain ⟨x, rfl, hx, hz0, hz1, hxb⟩ := hcell k hlt
      have hx' : wr.cell? (x.add k) = some (.int .u8 (z0.getD k 0)) := (hbel.cell (p := x.add k) (by rw [add_block]; exact hxb)).trans hx
      have hc := hrow.cell hlt
      have hf := hrow.frozen k
      clear hcell
      obtain ⟨z, hz⟩ : ∃ z, z = z0.getD k 0 := ⟨_, rfl⟩
      rw [← hz] at hx' hz0 hz1
      clear hz hx
      have hm : 0 ≤ z % 8 ∧ z % 8 < 8 := by omega
      have hmt : (z % 8).toNat < t.size := by omega
      have R := hrow.set k (.int .u8 ((t[(z % 8).toNat]).toNat : Int))
      have R2 : (wr.setCell ⟨w.heap.size, k, none⟩ (.int .u8 ((t[(z % 8).toNat]).toNat : Int))).rowIs w.heap.size 5 len0 (fun j => .int .u8 ((if j = k then t[(z % 8).toNat] else B j).toNat : Int)) := R.congr (fun i _ => by split <;> rfl)
      have HR : Hid _ := R2
      clear R R2
      go_wp2
      go_roundw
      case rel => exact ⟨k + 1, _, by omega, by go_num, HR.out, hbel.setCell (Nat.le_refl _) _⟩
      case measure => simp [intOf]; omega
    · clear hcell hmk
      obtain ⟨s, hs, hcv⟩ := row_string _ _ _ _ hrow
      clear hrow
      have hs4 : s.size ≤ 4096 := by omega
      obtain ⟨f, hf, hfe⟩ := from_in a1 len0
      obtain ⟨e, p, hG, g1, g2, g3, g4⟩ := found s f
      have HG := (show Hid (G s.data.toList f true = (e, p)) from hG)
      have H4 : Hid (p = true ↔ Clean s (min f s.size) e) := g4
      clear hG g4
      go_wp2_with fail
      refine (stringEnd_at s f _ hs4 (by omega) HG.out).mono ?_
      rintro x w2 ⟨rfl, hw⟩
      subst w2
      go_wp2_with fail
      refine (model_at s f _ hs4 (by omega) HG.out).mono ?_
      rintro x w2 ⟨rfl, hw⟩
      subst w2
      rw [hs] at g1 g2
      have HS : Hid (s.size = len0) := hs
      have fin : ∀ lo : Nat, min f s.size = lo → Hid (p = true ↔ Clean s lo e) := fun lo h => by rw [← h]; exact H4.out
      clear H4 HG hcv hs4
      by_cases hfn : len0 < f
      · have H5 := fin len0 (by rw [hs]; omega)
        have he : len0 ≤ e := by omega
        clear fin hs g3 g1 hfe
        go_wp2
        go_loop [16, 17] (fun nb i => ∃ (j : Nat) (b : Bool), len0 ≤ j ∧ j ≤ e ∧ i = .int .i64 j ∧ nb = .bool b ∧ (b = true ↔ Clean s len0 j)) (fun _ i => e - (intOf i).toNat)
        case atStart => exact ⟨len0, true, Nat.le_refl _, by omega, rfl, rfl, ⟨fun _ => clean_start s len0, fun _ => rfl⟩⟩
        case round =>
          obtain ⟨j, b, hj1, hj2, rfl, rfl, hb⟩ := hrel
          have HB : Hid (b = true ↔ Clean s len0 j) := hb
          clear hb
          by_cases hje : j < e
          · exact absurd hje (by omega)
          · have hE : Hid (p = b) := by
              obtain rfl : j = e := by omega
              exact same_bool H5.out HB.out
            go_wp2
            go_ret
            refine ⟨?_, hbel⟩
            rw [hE.out]
            simp
      · have H5 := fin f (by rw [hs]; omega)
        have hfe' : f ≤ e := by omega
        clear fin g1 hfe
        by_cases hen : e < len0
        · have hes : e < s.size := by omega
          have g4 := g3 hes
          clear g3 hs
          by_cases hq : (s[e].toNat : Int) = 34
          · have hq' : ((s[e].toNat : Int) == 34) = true := by simpa using hq
            clear hq
            go_wp2
            go_loop [16, 17] (fun nb i => ∃ (j : Nat) (b : Bool), f ≤ j ∧ j ≤ e ∧ i = .int .i64 j ∧ nb = .bool b ∧ (b = true ↔ Clean s f j)) (fun _ i => e - (intOf i).toNat)
            case atStart => exact ⟨f, true, Nat.le_refl _, by omega, rfl, rfl, ⟨fun _ => clean_start s f, fun _ => rfl⟩⟩
            case round =>
              obtain ⟨j, b, hj1, hj2, rfl, rfl, hb⟩ := hrel
              have HB : Hid (b = true ↔ Clean s f j) := hb
              clear hb
              by_cases hje : j < e
              · have hjs : j < s.size := by have := HS.out; omega
                by_cases h92 : (s[j].toNat : Int) = 92
                · have N : Hid (false = true ↔ Clean s f (j + 1)) := ⟨fun h => (by cases h), fun c => absurd h92 (c j hj1 (by omega) hjs)⟩
                  go_wp2
                  go_round
                  case rel => exact ⟨j + 1, false, by omega, by omega, by go_num, rfl, N.out⟩
                  case measure => simp [intOf]; omega
                · have N : Hid (b = true ↔ Clean s f (j + 1)) := HB.out.trans ⟨fun c => clean_step hjs h92 c, fun c => clean_mono (by omega) c⟩
                  go_wp2
                  go_round
                  case rel => exact ⟨j + 1, b, by omega, by omega, by go_num, rfl, N.out⟩
                  case measure => simp [intOf]; omega
              · have hE : Hid (p = b) := by
                  obtain rfl : j = e := by omega
                  exact same_bool H5.out HB.out
                go_wp2
                go_ret
                refine ⟨?_, hbel⟩
                rw [hE.out]
                simp
          · have hq1 : ((s[e].toNat : Int) == 34) = false := by simpa using hq
            have hq2 : (s[e].toNat : Int) < 32 := by omega
            clear hq g4
            go_wp2
            go_loop [16, 17] (fun nb i => ∃ (j : Nat) (b : Bool), f ≤ j ∧ j ≤ e ∧ i = .int .i64 j ∧ nb = .bool b ∧ (b = true ↔ Clean s f j)) (fun _ i => e - (intOf i).toNat)
            case atStart => exact ⟨f, true, Nat.le_refl _, by omega, rfl, rfl, ⟨fun _ => clean_start s f, fun _ => rfl⟩⟩
            case round =>
              obtain ⟨j, b, hj1, hj2, rfl, rfl, hb⟩ := hrel
              have HB : Hid (b = true ↔ Clean s f j) := hb
              clear hb
              by_cases hje : j < e
              · have hjs : j < s.size := by have := HS.out; omega
                by_cases h92 : (s[j].toNat : Int) = 92
                · have N : Hid (false = true ↔ Clean s f (j + 1)) := ⟨fun h => (by cases h), fun c => absurd h92 (c j hj1 (by omega) hjs)⟩
                  go_wp2
                  go_round
                  case rel => exact ⟨j + 1, false, by omega, by omega, by go_num, rfl, N.out⟩
                  case measure => simp [intOf]; omega
                · have N : Hid (b = true ↔ Clean s f (j + 1)) := HB.out.trans ⟨fun c => clean_step hjs h92 c, fun c => clean_mono (by omega) c⟩
                  go_wp2
                  go_round
                  case rel => exact ⟨j + 1, b, by omega, by omega, by go_num, rfl, N.out⟩
                  case measure => simp [intOf]; omega
              · have hE : Hid (p = b) := by
                  obtain rfl : j = e := by omega
                  exact same_bool H5.out HB.out
                go_wp2
                go_ret
                refine ⟨?_, hbel⟩
                rw [hE.out]
                simp
        · have he : len0 ≤ e := by omega
          clear g3 hs
          go_wp2
          go_loop [16, 17] (fun nb i => ∃ (j : Nat) (b : Bool), f ≤ j ∧ j ≤ e ∧ i = .int .i64 j ∧ nb = .bool b ∧ (b = true ↔ Clean s f j)) (fun _ i => e - (intOf i).toNat)
          case atStart => exact ⟨f, true, Nat.le_refl _, by omega, rfl, rfl, ⟨fun _ => clean_start s f, fun _ => rfl⟩⟩
          case round =>
            obtain ⟨j, b, hj1, hj2, rfl, rfl, hb⟩ := hrel
            have HB : Hid (b = true ↔ Clean s f j) := hb
            clear hb
            by_cases hje : j < e
            · have hjs : j < s.size := by have := HS.out; omega
              by_cases h92 : (s[j].toNat : Int) = 92
              · have N : Hid (false = true ↔ Clean s f (j + 1)) := ⟨fun h => (by cases h), fun c => absurd h92 (c j hj1 (by omega) hjs)⟩
                go_wp2
                go_round
                case rel => exact ⟨j + 1, false, by omega, by omega, by go_num, rfl, N.out⟩
                case measure => simp [intOf]; omega
              · have N : Hid (b = true ↔ Clean s f (j + 1)) := HB.out.trans ⟨fun c => clean_step hjs h92 c, fun c => clean_mono (by omega) c⟩
                go_wp2
                go_round
                case rel => exact ⟨j + 1, b, by omega, by omega, by go_num, rfl, N.out⟩
                case measure => simp [intOf]; omega
            · have hE : Hid (p = b) := by
                obtain rfl : j = e := by omega
                exact same_bool H5.out HB.out
              go_wp2
              go_ret
              refine ⟨?_, hbel⟩
              rw [hE.out]
              simp
end Go.Proofs.Ybulkcate
