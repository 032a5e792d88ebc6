/-
  'fmt.Errorf' at AppendBinary's own format and operands (function 11, over the stop 18), and 'errors.Is' of what it gives against the sentinel that it wraps (function 6): by contracts. After the guide's IpowFmt, IpowErrorf and SentryIs, at this dump's numbers.
-/
import Derived.Test.YbulkcateFmtLaid
import Derived.WalkKit
import Derived.WalkSpells
import Derived.LaidEql
import Derived.Stop.Asserts
import Derived.Stop.CallBack
import Derived.Stop.IfaceNil
import Derived.Stop.FmtTextLaws
import Derived.RowKitTokens
namespace Go.Proofs.YbulkcateFmt
open Go.RowKit Go.Extern.Stop Go.Stop Go.Extern

/-! ### fmt -/
theorem Ybaf.call18 (args : Array Value) (w : World) : (callFunc 18 args).run Ybaf.prog w = ((FmtStop.errorf #[9, 51] #[27] args).run Ybaf.prog w).andThen fun v w' => .ok (.value v) w' :=
  run_callFunc_extern Ybaf.func18 (by kernel_rfl) (by kernel_rfl) (by kernel_rfl) (by kernel_rfl) args w
theorem Ybaf.guard (name : String) (w : World) : (FmtStop.guard name).run Ybaf.prog w = .ok () w := by kernel_rfl

def fmtW : ByteArray := ⟨#[104, 121, 98, 114, 105, 100, 32, 116, 105, 109, 101, 115, 116, 97, 109, 112, 32, 119, 105, 116, 104, 32, 119, 97, 108, 108, 32, 37, 100, 58, 32, 37, 119]⟩
theorem Ybaf.fmt0 : FmtStop.printed? ⟨#[104, 121, 98, 114, 105, 100, 32, 116, 105, 109, 101, 115, 116, 97, 109, 112, 32, 119, 105, 116, 104, 32, 119, 97, 108, 108, 32, 37, 100, 58, 32, 37, 119]⟩ 2 = some [(0, 100, false), (1, 119, false)] := by kernel_rfl
theorem Ybaf.fmt0r (w : World) : (FmtDoors.printed ⟨#[104, 121, 98, 114, 105, 100, 32, 116, 105, 109, 101, 115, 116, 97, 109, 112, 32, 119, 105, 116, 104, 32, 119, 97, 108, 108, 32, 37, 100, 58, 32, 37, 119]⟩ 2).run Ybaf.prog w = .ok [(0, 100, false), (1, 119, false)] w := by kernel_rfl
def Ybaf.shape2 : List UInt8 := [5, 5, 0, 0, 0, 0, 0, 0, 0, 105, 110, 116, 54, 52]
theorem Ybaf.op2_100w (name : String) (x : Int) (w : World) : (FmtStop.operand name true 100 false (.iface 2 (.int .i64 x))).run Ybaf.prog w = .ok (Ybaf.shape2, Go.Extern.Stop.digits 8 (x % 2 ^ 64).toNat) w := by kernel_rfl
theorem Ybaf.ptr53 (w : World) : (FmtStop.ptrTo "fmt.wrapError").run Ybaf.prog w = .ok 53 w := by kernel_rfl
theorem Ybaf.elem53 (w : World) : (elemOf 53).run Ybaf.prog w = .ok 95 w := by kernel_rfl
theorem Ybaf.isError66 (w : World) : (FmtDoors.textMethod 66 "Error").run Ybaf.prog w = .ok true w := by kernel_rfl
theorem Ybaf.isError53 (w : World) : (FmtDoors.textMethod 53 "Error").run Ybaf.prog w = .ok true w := by kernel_rfl
def Ybaf.plain66 : List UInt8 := 14 :: FmtStop.pack starName.toUTF8.data.toList
theorem Ybaf.opPlain66 (name : String) (a : Addr) (s : ByteArray) (w : World) (hc : w.cell? a = some (.string s)) :
    (FmtStop.operand name true 119 false (.iface 66 (.pointer (some a)))).run Ybaf.prog w = .ok (Ybaf.plain66, s.data.toList) w := by
  have h1 : (typeStr 66).run Ybaf.prog w = .ok starName w := by kernel_rfl
  have d2 : Ybaf.t66.desc = .pointer 68 := rfl
  have d3 : Ybaf.t68.desc = .named "errors.errorString" 67 := rfl
  simp [FmtStop.operand, h1, d2, d3, run_load, hc, Ybaf.plain66]

set_option maxHeartbeats 400000 in
theorem errorf_neg (F : Interp) (wall : Int) (a : Addr) (s : ByteArray) (blk : Nat) (w : World) (hF : F.answers w.tape)
    (hc0 : w.cell? ⟨blk, 0, none⟩ = some (.iface 2 (.int .i64 wall))) (hc1 : w.cell? ⟨blk, 1, none⟩ = some (.iface 66 (.pointer (some a)))) (hs : w.cell? a = some (.string s)) :
    Calls Ybaf.prog 11 #[.string fmtW, .slice (some ⟨blk, 0, none⟩) 2 2] w fun e w' =>
      e = .returned (.iface 53 (.pointer (some ⟨w.heap.size, 0, none⟩))) ∧ ∃ t, w' = (w.alloc (.cells #[.string t, .iface 66 (.pointer (some a))] 95)).drew := by
  have hF' := answers_open hF
  have k1 := Ybaf.call18
  have k2 := Ybaf.guard
  have k3 := Ybaf.fmt0
  have k4 := Ybaf.fmt0r
  have k5 := Ybaf.op2_100w
  have k6 := Ybaf.ptr53
  have k7 := Ybaf.elem53
  have k8 := Ybaf.isError66
  have k9 := Ybaf.isError53
  have hop := Ybaf.opPlain66 "fmt.errorf" a s w hs
  unfold fmtW
  go_enter Ybaf.func11, Ybaf.ntmps11
  go_wp2
  go_ret
  exact ⟨rfl, _, rfl⟩

/-! ### errors.Is -/
theorem Ybaf.isTypeOf (v : Value) (w : World) : (callFunc 13 #[.iface 66 v]).run Ybaf.prog w = .ok (.value (.iface 55 (.agg #[.pointer (some ⟨2, 66, none⟩)]))) w :=
  (@run_callFunc_extern Ybaf.prog 13 _ Extern.ReflectliteType.typeOf Ybaf.func13 (by kernel_rfl) (by kernel_rfl) (by kernel_rfl) (by kernel_rfl) _ w).trans (by kernel_rfl)
theorem Ybaf.isComparable (w : World) : (callFunc 43 #[.agg #[.pointer (some ⟨2, 66, none⟩)]]).run Ybaf.prog w = .ok (.value (.bool true)) w :=
  (@run_callFunc_extern Ybaf.prog 43 _ (Extern.ReflectliteType.method fun t => do Extern.Rtype.noPackHeld "Comparable" t; pure (.bool (← typeInfo t).comparable)) Ybaf.func43 (by kernel_rfl) (by kernel_rfl) (by kernel_rfl) (by kernel_rfl) _ w).trans (by kernel_rfl)
theorem Ybaf.isMethodComparable (v : Value) (w : World) : (Go.method 223 55 v "Comparable").run Ybaf.prog w = .ok (43, v) w := by kernel_rfl
theorem Ybaf.methodUnwrap (v : Value) (w : World) : (Go.method 223 53 v "Unwrap").run Ybaf.prog w = .ok (39, v) w := by kernel_rfl
theorem Ybaf.isComp : (Ybaf.prog.info? 66).map (·.comparable) = some true := by kernel_rfl
theorem Ybaf.isSize : (Ybaf.prog.info? 68).map (·.size) = some 1 := by kernel_rfl
theorem Ybaf.noIsW (v : Value) (xT : TypeId) (w : World) : (Instr.typeAssert (.iface 53 v) xT 57 true).run Ybaf.prog w = .ok (.tuple #[.nilIface, .bool false]) w := run_typeAssert_lacksB Ybaf.underlying57 (by kernel_rfl) (by kernel_rfl) v xT w
theorem Ybaf.hasUnwrapW (v : Value) (xT : TypeId) (w : World) : (Instr.typeAssert (.iface 53 v) xT 60 true).run Ybaf.prog w = .ok (.tuple #[.iface 53 v, .bool true]) w := run_typeAssert_hasB Ybaf.underlying60 (by kernel_rfl) v xT w

set_option maxHeartbeats 400000 in
theorem is_wrap_same (pb po : Nat) (b : Addr) (w : World) (h1 : w.cell? ⟨pb, po + 1, none⟩ = some (.iface 66 (.pointer (some b)))) :
    Calls Ybaf.prog 6 #[.iface 53 (.pointer (some ⟨pb, po, none⟩)), .iface 66 (.pointer (some b))] w fun e w' => e = .returned (.bool true) ∧ w' = w := by
  obtain ⟨i, hi, hcmp⟩ := Option.map_eq_some_iff.1 Ybaf.isComp
  obtain ⟨j, hj, hjs⟩ := Option.map_eq_some_iff.1 Ybaf.isSize
  have tT := Ybaf.isTypeOf
  have cT := Ybaf.isComparable
  have mR := Ybaf.isMethodComparable
  have mU := Ybaf.methodUnwrap
  have nW := Ybaf.noIsW
  have uW := Ybaf.hasUnwrapW
  have heq := run_eql_iface_ptr_same (P := Ybaf.prog) w b Ybaf.underlying27 Ybaf.underlying66 hi hcmp hj
  have hty := run_eql_iface_types (P := Ybaf.prog) 53 66 (.pointer (some ⟨pb, po, none⟩)) (.pointer (some b)) Ybaf.underlying27 (by decide) w
  go_enter Ybaf.func6, Ybaf.ntmps6
  go_wp2
  refine wp_loop_rounds 2 ?_
  rw [rounds_succ]
  go_wp2
  rw [rounds_succ]
  go_wp2
  go_ret
  exact ⟨rfl, rfl⟩
end Go.Proofs.YbulkcateFmt
