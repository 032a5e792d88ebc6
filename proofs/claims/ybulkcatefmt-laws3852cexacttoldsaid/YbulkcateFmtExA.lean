/-
  FOR 'LawS3852CExact': bytes read as a string; 'bytes.Equal' (function 7); 'AppendBinary' at a negative wall (function 5). The rest of the walk: YbulkcateFmtExB.
-/
import Derived.Test.YbulkcateFmtErr
import Derived.Test.YbulkcateFmtBin
import Derived.Laws.IdiomStrings
import Derived.Laws.CopyOwn
namespace Go.Proofs.YbulkcateFmt
open Go.ChangeShapes Go.WideShapes Go.ChangeAt Go.RowKit
open Go.Extern.Stop Go.Stop Go.Extern

/-- What the walk is told of the bytes that came in: nil, or cells behind an address. -/
structure ArgB (w : World) (a0 : Option Addr) (len cap : Nat) (L : List UInt8) : Prop where
  length : L.length = len
  nil : a0 = none → len = 0 ∧ cap = 0
  cells : ∀ ad, a0 = some ad → ∀ j u, (bc L)[j]? = some u → w.cell? (ad.add j) = some u

theorem add_block (a : Addr) (n : Nat) : (a.add n).block = a.block := by unfold Addr.add; split <;> rfl

theorem ArgB.on {w w' : World} {a0 : Option Addr} {len cap : Nat} {L : List UInt8} (h : ArgB w a0 len cap L) (hb : Below w.heap.size w w') : ArgB w' a0 len cap L :=
  ⟨h.length, h.nil, fun ad ha j u hu => by
    have hc := h.cells ad ha j u hu
    rw [hb.cell (World.block_lt_of_cell? _ _ hc)]
    exact hc⟩

/-- 'string(v)' gives s, and turns nothing. -/
def Spells (w : World) (v : Value) (s : ByteArray) : Prop := (convert 22 9 v).run Ybaf.prog w = .ok (.string s) w

theorem spells_nil (w : World) : Spells w (.slice none 0 0) ⟨[].toArray⟩ := by
  unfold Spells
  rw [run_convert_bytes_string w 22 9 5 none 0 0 Ybaf.underlying22 Ybaf.underlying5 Ybaf.underlying9]
  rfl

theorem spells_at (w : World) (ad : Addr) (cap : Nat) (L : List UInt8) (hc : ∀ j u, (bc L)[j]? = some u → w.cell? (ad.add j) = some u) : Spells w (.slice (some ad) L.length cap) ⟨L.toArray⟩ :=
  run_convert_bytes_back (P := Ybaf.prog) w 22 9 5 ad cap L Ybaf.underlying22 Ybaf.underlying5 Ybaf.underlying9 (fun j hj => hc j _ (by simp [bc, hj]))

theorem ArgB.spells {w : World} {a0 : Option Addr} {len cap : Nat} {L : List UInt8} (h : ArgB w a0 len cap L) : Spells w (.slice a0 len cap) ⟨L.toArray⟩ := by
  cases a0 with
  | none =>
    obtain ⟨rfl, rfl⟩ := h.nil rfl
    obtain rfl : L = [] := List.eq_nil_of_length_eq_zero h.length
    exact spells_nil w
  | some ad =>
    rw [← h.length]
    exact spells_at w ad cap L (h.cells ad rfl)

theorem own_spells {w : World} {base n : Nat} {v : Value} {L : List UInt8} (h : w.ownsRow base 5 1 v n (bc L)) : Spells w v ⟨L.toArray⟩ := by
  have hn : L.length = n := by have := h.1; rw [bc_length] at this; omega
  rcases h.2 with ⟨rfl, h0⟩ | ⟨g, cap, cur, hv, _⟩
  · obtain rfl : L = [] := List.eq_nil_of_length_eq_zero (by omega)
    exact spells_nil w
  · rw [hv, ← hn]
    exact spells_at w ⟨g, 0, none⟩ cap L (h.cells (g := g) (by rw [hv]; rfl))

theorem equal7 (v1 v2 : Value) (s : ByteArray) (w : World) (h1 : Spells w v1 s) (h2 : Spells w v2 s) :
    Calls Ybaf.prog 7 #[v1, v2] w fun e w' => e = .returned (.bool true) ∧ w' = w := by
  unfold Spells at h1 h2
  go_enter Ybaf.func7, Ybaf.ntmps7
  go_wp2
  go_ret
  exact ⟨rfl, rfl⟩

set_option maxHeartbeats 1000000 in
theorem append5_neg (F : Interp) (wall c : Int) (v : Value) (a : Addr) (s : ByteArray) (w : World) (hF : F.answers w.tape) (hneg : wall < 0)
    (hg : w.cell? ⟨0, 0, none⟩ = some (.iface 66 (.pointer (some a)))) (hs : w.cell? a = some (.string s)) :
    Calls Ybaf.prog 5 #[.agg #[.int .i64 wall, .int .u32 c], v] w fun e w' => ∃ k, e = .returned (.tuple #[v, .iface 53 (.pointer (some ⟨k, 0, none⟩))]) ∧
      w'.cell? ⟨k, 1, none⟩ = some (.iface 66 (.pointer (some a))) ∧ Below w.heap.size w w' := by
  have l0 : 0 < w.heap.size := World.block_lt_of_cell? _ _ hg
  have la : a.block < w.heap.size := World.block_lt_of_cell? _ _ hs
  go_enter Ybaf.func5, Ybaf.ntmps5
  go_wp2_with fail
  have hs2 : ((w.alloc (.cells #[.int .i64 wall, .int .u32 c] 25)).alloc (.cells #[.iface 2 (.int .i64 wall), .iface 66 (.pointer (some a))] 20)).cell? a = some (.string s) := by
    rw [World.cell?_alloc_lt _ _ _ (by rw [World.size_alloc]; omega), World.cell?_alloc_lt _ _ _ la]
    exact hs
  have C := errorf_neg F wall a s (w.heap.size + 1) ((w.alloc (.cells #[.int .i64 wall, .int .u32 c] 25)).alloc (.cells #[.iface 2 (.int .i64 wall), .iface 66 (.pointer (some a))] 20)) hF (by simp) (by simp) hs2
  refine C.mono ?_
  rintro e w2 ⟨rfl, t, hw2⟩
  have HB : Hid (Below w.heap.size w w2) := by
    rw [hw2]
    exact ((((Below.refl _ _).alloc (Nat.le_refl _) _).alloc (by simp) _).alloc (by simp; omega) _).drew
  have HK : Hid (w2.cell? ⟨w.heap.size + 2, 1, none⟩ = some (.iface 66 (.pointer (some a)))) := by
    rw [hw2]
    have h3 : ∀ (W : World) (o : Array Value) (t : TypeId), W.heap.size = w.heap.size + 2 → (W.alloc (.cells o t)).drew.cell? ⟨w.heap.size + 2, 1, none⟩ = o[1]? := fun W o t hW => by
      rw [← hW]
      exact World.cell?_alloc_mark W o t (0, 0) 1
    exact h3 _ _ _ (by simp)
  clear hw2 C hs2
  go_wp2
  go_ret2
  refine ⟨w.heap.size + 2, ?_, HK.out, HB.out⟩
  simp
end Go.Proofs.YbulkcateFmt
