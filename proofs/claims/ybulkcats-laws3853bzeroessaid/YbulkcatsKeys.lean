/-
  THE CONTRACTS of 'slices.Clone' (function 8) and 'slices.Equal' (function 9) at []KeyInfo: six cells an element.
-/
import Derived.Test.YbulkcatsMem
import Derived.Deep.AppendLies
import Derived.Deep.QuietTactic
import Derived.BigQuiet
import Derived.WalkLawsBesides
namespace Go.Proofs.Ybulkcats
open Go.ChangeShapes Go.WideShapes Go.ChangeAt Go.RowKit Go.Deep

theorem Yba.info37 : (Yba.prog.info? 37).map (fun i => (i.zero, i.size, i.bytes)) = some (some (.agg #[.int .u8 0, .int .u8 0, .int .u8 0, .int .u64 0, .int .i64 0, .pointer none]), 6, 32) := by kernel_rfl

/-- The cells of n KeyInfos whose time is the zero time. -/
def KeyLike (f : Nat → Value) (n : Nat) : Prop := ∀ i, i < n → ∃ a b s : Int, f (i * 6) = .int .u8 a ∧ f (i * 6 + 1) = .int .u8 b ∧ f (i * 6 + 2) = .int .u8 s ∧ f (i * 6 + 3) = .int .u64 0 ∧ f (i * 6 + 4) = .int .i64 0 ∧ f (i * 6 + 5) = .pointer none

theorem keyLike_one {f : Nat → Value} {n : Nat} (h : KeyLike f n) {j : Nat} (hj : j < n * 6) : (f j).oneCell' = true := by
  obtain ⟨a, b, s, h0, h1, h2, h3, h4, h5⟩ := h (j / 6) (by omega)
  have hc : j = j / 6 * 6 ∨ j = j / 6 * 6 + 1 ∨ j = j / 6 * 6 + 2 ∨ j = j / 6 * 6 + 3 ∨ j = j / 6 * 6 + 4 ∨ j = j / 6 * 6 + 5 := by omega
  rcases hc with e | e | e | e | e | e <;> rw [e] <;> first | rw [h0]; rfl | rw [h1]; rfl | rw [h2]; rfl | rw [h3]; rfl | rw [h4]; rfl | rw [h5]; rfl

set_option maxHeartbeats 1000000 in
theorem clone8 (K n : Nat) (f : Nat → Value) (w : World) (hn : n ≤ 1024) (hr : w.rowIs K 37 (n * 6) f) (hk : KeyLike f n) :
    Calls Yba.prog 8 #[.slice (some ⟨K, 0, none⟩) n n] w fun e w' => ∃ ao cap, e = .returned (.slice ao n cap) ∧ (0 < n → ∃ g, ao = some ⟨g, 0, none⟩ ∧ (∀ j, j < n * 6 → w'.cell? ⟨g, j, none⟩ = some (f j)) ∧ ∃ c fr, w'.heap[g]? = some (.cells c 37 fr)) ∧ Below w.heap.size w w' := by
  obtain ⟨i0, hi0, hz0, hz1, hz2⟩ := info_parts Yba.info37
  have HR := hid hr
  have HK := hid hk
  clear hr hk
  have hnl := fun (w : World) (a : Addr) (n c : Nat) => Lib.run_eql_slice_nil (P := Yba.prog) w 30 37 (some a) n c 0 0 Yba.underlying30
  simp only [Option.isNone_some] at hnl
  by_cases h0 : n = 0
  · subst h0
    have HO : Hid ((w.alloc (.cells #[] 37)).ownsRow w.heap.size 37 6 (.slice (some ⟨w.heap.size, 0, none⟩) 0 0) 0 []) := World.ownsRow_made w _ 0 (Nat.le_refl _) (Nat.zero_le _) (by simp)
    go_enter Yba.func8, Yba.ntmps8
    go_wp2_with (at_builtin; refine wpList_append_fits _ rfl _ _ 30 rfl w.heap.size 37 i0 6 Yba.underlying30 hi0 hz1 w.heap.size 0 0 [] rfl HO.out ⟨K, 0, none⟩ 0 0 [] rfl rfl (fun j u hj => by simp at hj) (fun u hu => by cases hu) (by omega) ?_; intro w1 hown1 hgrow1)
    have HB := hid (((Below.refl w.heap.size w).alloc (Nat.le_refl _) _).grown hgrow1 (by rw [World.size_alloc]; omega) (fun k hk => by (have h9 : w.heap.size = k := by simpa [Value.ownBlock] using hk); omega))
    clear hown1 hgrow1
    go_wp2
    go_ret
    exact ⟨_, _, rfl, fun h => absurd h (by omega), HB.out⟩
  · have hpos : 0 < n := by omega
    have HO : Hid ((w.alloc (.cells #[] 37)).ownsRow w.heap.size 37 6 (.slice (some ⟨w.heap.size, 0, none⟩) 0 0) 0 []) := World.ownsRow_made w _ 0 (Nat.le_refl _) (Nat.zero_le _) (by simp)
    have hKl := HR.out.lt
    have hnews : ∀ j u, ((List.range (n * 6)).map f)[j]? = some u → (w.alloc (.cells #[] 37)).cell? ((⟨K, 0, none⟩ : Addr).add j) = some u := fun j u hu => by
      obtain ⟨hj, he⟩ := List.getElem?_eq_some_iff.1 hu
      rw [List.length_map, List.length_range] at hj
      rw [show (⟨K, 0, none⟩ : Addr).add j = ⟨K, j, none⟩ by unfold Addr.add; split <;> simp_all, World.cell?_alloc_lt _ _ _ hKl, HR.out.cell hj, ← he]
      simp
    have hone : ∀ u ∈ (List.range (n * 6)).map f, u.oneCell' = true := fun u hu => by
      obtain ⟨j, hj, rfl⟩ := List.mem_map.1 hu
      exact keyLike_one HK.out (by simpa using hj)
    have HN := hid hnews
    have H1 := hid hone
    clear hnews hone h0
    go_enter Yba.func8, Yba.ntmps8
    go_wp2_with (at_builtin; refine wpList_append_lies _ rfl _ _ 30 rfl w.heap.size 37 i0 _ 6 32 Yba.underlying30 hi0 hz0 hz1 hz2 rfl (by omega) (.slice (some ⟨w.heap.size, 0, none⟩) 0 0) 0 [] rfl HO.out ⟨K, 0, none⟩ n n ((List.range (n * 6)).map f) rfl (by rw [List.length_map, List.length_range]) HN.out H1.out hpos (by unfold maxLen; omega) (by omega) (by rw [World.size_alloc]; omega) (w.heap.size + 1) (by simp) ?_; intro g cap w1 hown1 hgrow1 hat hlt)
    rw [Nat.zero_add, List.nil_append] at hown1
    have HB := hid (((Below.refl w.heap.size w).alloc (Nat.le_refl _) (.cells #[] 37)).grown hgrow1 (by rw [World.size_alloc]; omega) (fun k hk => by (have h9 : w.heap.size = k := by simpa [Value.ownBlock] using hk); omega))
    have HW := hid hown1
    clear hown1 hgrow1
    go_wp2
    go_ret
    refine ⟨some ⟨g, 0, none⟩, cap, rfl, fun _ => ⟨g, rfl, fun j hj => ?_, ?_⟩, HB.out⟩
    · obtain ⟨hl, hn0 | ⟨g', cap', cur, hv, hb, hg, hle, hmx, hsz, htk⟩⟩ := HW.out
      · cases hn0.1
      · cases hv
        have hc : j < cur.size := by rw [hsz]; exact Nat.lt_of_lt_of_le hj (Nat.mul_le_mul_right 6 hle)
        have he : cur.toList[j]? = some (f j) := by
          have := congrArg (fun l => l[j]?) htk
          simp only [List.getElem?_take, if_pos hj] at this
          rw [this]; simp [hj]
        have he2 : cur[j]? = some (f j) := by rw [← he]; simp
        simp [World.cell?, hg, he2]
    · obtain ⟨hl, hn0 | ⟨g', cap', cur, hv, hb, hg, hle, hmx, hsz, htk⟩⟩ := HW.out
      · cases hn0.1
      · cases hv
        exact ⟨_, _, hg⟩
end Go.Proofs.Ybulkcats
