/-
  The numbers under which this dump holds sync.Mutex's functions and types, and that it holds them (the worked texts' own form; typed by hand, for the printing tool is not laid here); and the contract of TryLock.
-/
import Derived.Test.YbulkcbdyRows
import Derived.Conc.MuLone
import Derived.KernelRfl
import Derived.WalkKit
namespace Go.Proofs.Ybulkcbdy
open Go.MuLone

abbrev Yba.muLink : Go.Conc.Locks.MuLink := { lock := 7, unlock := 6, ilock := 10, iunlock := 9, lockSlow := 18, unlockSlow := 17, disable := 11, enable := 12, acquire := 14, relMerge := 15, cas32 := 13, add32 := 16, tMutex := 38, tIMutex := 36, tPMutex := 44, tPIMutex := 45, tPI32 := 47, tUP := 49, tNoCopy := 33, tU32 := 34 }
theorem Yba.muLib : Go.Conc.Locks.MuLib Yba.prog Yba.muLink :=
  ⟨Yba.func7, Yba.func6, Yba.func10, Yba.func9, Yba.func11, Yba.func12, Yba.func14, Yba.func15, Yba.func13, Yba.func16, Yba.underlying36, Yba.runUnderlying36, Yba.sizeOf36, Yba.isAgg36, Yba.zeroValue36, Yba.underlying38, Yba.runUnderlying38, Yba.sizeOf38, Yba.isAgg38, Yba.zeroValue38, Yba.underlying44, Yba.runUnderlying44, Yba.sizeOf44, Yba.isAgg44, Yba.zeroValue44, Yba.underlying45, Yba.runUnderlying45, Yba.sizeOf45, Yba.isAgg45, Yba.zeroValue45, Yba.underlying47, Yba.runUnderlying47, Yba.sizeOf47, Yba.isAgg47, Yba.zeroValue47, Yba.underlying49, Yba.runUnderlying49, Yba.sizeOf49, Yba.isAgg49, Yba.zeroValue49, Yba.underlying33, Yba.runUnderlying33, Yba.sizeOf33, Yba.isAgg33, Yba.zeroValue33, Yba.underlying21, Yba.runUnderlying21, Yba.sizeOf21, Yba.isAgg21, Yba.zeroValue21, (by kernel_rfl)⟩

/-- A pointer to the inner lock as a bare address: the same address. -/
theorem conv_up {a : Addr} {v : Value} {w : World} (hc : w.cell? a = some v) : (convert 45 49 (.pointer (some a))).run Yba.prog w = .ok (.pointer (some a)) w := by
  obtain ⟨e, n, hsh, hlt, hsp⟩ := World.shape?_of_cell? hc
  have hi : ∀ W, (sizeOf 36).run Yba.prog W = .ok 2 W := Yba.sizeOf36
  have hge : ¬ (n ≤ a.off) := by omega
  have hs := fun W => run_underlying (P := Yba.prog) (w := W) Yba.underlying45
  have hd := fun W => run_underlying (P := Yba.prog) (w := W) Yba.underlying49
  simp only [convert, Sem.run_bind, hs, hd, Result.andThen]
  refine (Sem.run_bind _ _ _ _).trans ?_
  simp [Conv.seenAt, viewAt, cellsIn, hs, hd, hi, hsh, hge, Result.andThen]

set_option maxRecDepth 100000 in
set_option maxHeartbeats 1600000 in
/-- '(*internal/sync.Mutex).TryLock', the lock free (state 0): taken (state 1). -/
theorem itrylock_free (a : Addr) (w : World) (hc : w.cell? a = some (.int .i32 0)) (hz : w.frozen? a = false) :
    Calls Yba.prog 8 #[.pointer (some a)] w fun e w' => e = .returned (.bool true) ∧ w' = w.setCell a (.int .i32 1) := by
  have hd := disable Yba.muLib
  have he := enable Yba.muLib
  have ha := acquire Yba.muLib
  have hcas := run_call_cas_hit (P := Yba.prog) Yba.muLib.f_cas32 (by kernel_rfl) (by kernel_rfl) (by kernel_rfl) .i32 (by kernel_rfl) (y := 1) hc hz
  have hc' : (w.setCell a (.int .i32 1)).cell? a = some (.int .i32 1) := by simp [go_sem, hc]
  have hcv := conv_up hc'
  go_enter Yba.func8, Yba.ntmps8
  go_wp2
  go_ret
  exact ⟨rfl, rfl⟩

/-- '(*sync.Mutex).TryLock', the lock free (state 0): taken (state 1). -/
theorem trylock_free (a : Addr) (w : World) (hc : w.cell? a = some (.int .i32 0)) (hz : w.frozen? a = false) :
    Calls Yba.prog 5 #[.pointer (some a)] w fun e w' => e = .returned (.bool true) ∧ w' = w.setCell a (.int .i32 1) := by
  go_enter Yba.func5, Yba.ntmps5
  go_wp2_with (go_at_call 8; refine (itrylock_free _ _ hc hz).mono ?_; rintro e w' ⟨rfl, rfl⟩)
  go_ret
  exact ⟨rfl, rfl⟩
end Go.Proofs.Ybulkcbdy
