/-
  errors.As AT AN ERROR THAT DOES NOT MATCH. 32: *Refusal, 44: **Refusal, 30: error, 64: reflectlite's rtype, 45: *TokenError; 2: how many package-level variables the dump has.
-/
import Derived.Test.Qxb6612531aDoorRows
import Derived.Test.Qxb6612531aDoorAs
import Derived.WalkKit
import Derived.LaidEql
import Derived.Stop.Asserts
import Derived.RowKitTokens
namespace Go.Proofs.Qxb6612531aDoor.asLaw
open Go.RowKit Go.Extern.Stop Go.Stop Go.Extern

/-! ### an error of the type *TokenError: no match -/
theorem typeOf45 (v : Value) (w : World) : (ReflectliteType.typeOf #[.iface 45 v]).run Tryd.prog w = .ok (.iface 64 (.agg #[.pointer (some ⟨2, 45, none⟩)])) w := by kernel_rfl
theorem assignable45 (w : World) : (ReflectliteType.relation "AssignableTo" ReflectliteType.assignableTo #[.agg #[.pointer (some ⟨2, 45, none⟩)], .iface 64 (.agg #[.pointer (some ⟨2, 32, none⟩)])]).run Tryd.prog w = .ok (.bool false) w := by kernel_rfl

theorem noAs (v : Value) (xT : TypeId) (w : World) : (Instr.typeAssert (.iface 45 v) xT 69 true).run Tryd.prog w = .ok (.tuple #[.nilIface, .bool false]) w := run_typeAssert_lacksB Tryd.underlying69 (by kernel_rfl) (by kernel_rfl) v xT w
theorem noUnwrap (v : Value) (xT : TypeId) (w : World) : (Instr.typeAssert (.iface 45 v) xT 72 true).run Tryd.prog w = .ok (.tuple #[.nilIface, .bool false]) w := run_typeAssert_lacksB Tryd.underlying72 (by kernel_rfl) (by kernel_rfl) v xT w
theorem noUnwraps (v : Value) (xT : TypeId) (w : World) : (Instr.typeAssert (.iface 45 v) xT 73 true).run Tryd.prog w = .ok (.tuple #[.nilIface, .bool false]) w := run_typeAssert_lacksB Tryd.underlying73 (by kernel_rfl) (by kernel_rfl) v xT w

set_option maxRecDepth 100000 in
set_option maxHeartbeats 4000000 in
theorem as_miss (e t : Addr) (w : World) (hg : w.cell? ⟨1, 0, none⟩ = some (.iface 64 (.agg #[.pointer (some ⟨2, 30, none⟩)]))) :
    Calls Tryd.prog 14 #[.iface 45 (.pointer (some e)), .iface 44 (.pointer (some t))] w fun ev w' => ev = .returned (.bool false) ∧ w' = ((w.alloc (.cells #[.pointer (some t)] 44)).alloc (.cells #[.pointer (some ⟨2, 44, none⟩), .pointer (some ⟨w.heap.size, 0, none⟩), .int .u64 150] 53)).alloc (.cells #[.pointer (some ⟨2, 44, none⟩), .pointer (some ⟨w.heap.size, 0, none⟩), .int .u64 150] 53) := by
  have a1 := noAs
  have a2 := noUnwrap
  have a3 := noUnwraps
  have h6 := @run_callFunc_extern Tryd.prog 17 _ (fun args => ReflectliteValue.unpack (args.getD 0 (.tuple #[]))) Tryd.func17 (by kernel_rfl) (by kernel_rfl) (by kernel_rfl) (by kernel_rfl)
  have h7 := @run_callFunc_extern Tryd.prog 18 _ (ReflectliteValue.methodAny (ReflectliteValue.valueError "reflectlite.Value.Type" 0) (fun t _ _ _ => ReflectliteType.toType t)) Tryd.func18 (by kernel_rfl) (by kernel_rfl) (by kernel_rfl) (by kernel_rfl)
  have h8 := @run_callFunc_extern Tryd.prog 19 _ (ReflectliteValue.method (ReflectliteValue.valueError "reflectlite.Value.IsNil" 0) ReflectliteValue.isNil) Tryd.func19 (by kernel_rfl) (by kernel_rfl) (by kernel_rfl) (by kernel_rfl)
  have h27 := @run_callFunc_extern Tryd.prog 38 _ (ReflectliteType.abiMethod fun t => do pure (.int .u8 (← Rtype.kind t))) Tryd.func38 (by kernel_rfl) (by kernel_rfl) (by kernel_rfl) (by kernel_rfl)
  have h37 := @run_callFunc_extern Tryd.prog 50 _ (ReflectliteType.method ReflectliteType.elem) Tryd.func50 (by kernel_rfl) (by kernel_rfl) (by kernel_rfl) (by kernel_rfl)
  have h38 := @run_callFunc_extern Tryd.prog 51 _ (ReflectliteType.relation "Implements" ReflectliteType.implements_) Tryd.func51 (by kernel_rfl) (by kernel_rfl) (by kernel_rfl) (by kernel_rfl)
  have h10 := @run_callFunc_extern Tryd.prog 21 _ ReflectliteType.typeOf Tryd.func21 (by kernel_rfl) (by kernel_rfl) (by kernel_rfl) (by kernel_rfl)
  have h35 := @run_callFunc_extern Tryd.prog 48 _ (ReflectliteType.relation "AssignableTo" ReflectliteType.assignableTo) Tryd.func48 (by kernel_rfl) (by kernel_rfl) (by kernel_rfl) (by kernel_rfl)
  have h11 := @run_callFunc_extern Tryd.prog 22 _ (ReflectliteValue.method (ReflectliteValue.valueError "reflectlite.Value.Elem" 0) ReflectliteValue.elem) Tryd.func22 (by kernel_rfl) (by kernel_rfl) (by kernel_rfl) (by kernel_rfl)
  have h12 := @run_callFunc_extern Tryd.prog 23 _ ReflectliteValue.set Tryd.func23 (by kernel_rfl) (by kernel_rfl) (by kernel_rfl) (by kernel_rfl)
  have tO := typeOf45
  have mA := methodAssignableTo
  have a45 := assignable45
  have f6 := valueOf27
  have f7 := type27
  have mK := methodKind
  have mE := methodElem
  have mI := methodImplements
  have k27 := kind27
  have k25 := kind25
  have e27 := elem27
  have i25 := implements25
  have n8 := isNil27 ⟨w.heap.size, 0, none⟩ t ((w.alloc (.cells #[.pointer (some t)] 44)).alloc (.cells #[.pointer (some ⟨2, 44, none⟩), .pointer (some ⟨w.heap.size, 0, none⟩), .int .u64 150] 53)) (by simp)
  have hlt : 1 < w.heap.size := World.block_lt_of_cell? _ _ hg
  have hg2 : ((w.alloc (.cells #[.pointer (some t)] 44)).alloc (.cells #[.pointer (some ⟨2, 44, none⟩), .pointer (some ⟨w.heap.size, 0, none⟩), .int .u64 150] 53)).cell? ⟨1, 0, none⟩ = some (.iface 64 (.agg #[.pointer (some ⟨2, 30, none⟩)])) := by
    rw [World.cell?_alloc_lt _ _ ⟨1, 0, none⟩ (by simp; omega), World.cell?_alloc_lt _ _ ⟨1, 0, none⟩ hlt]; exact hg
  go_enter Tryd.func14, Tryd.ntmps14
  go_wp2
  refine wp_loop_rounds 1 ?_
  rw [rounds_succ]
  go_wp2
  go_ret
  exact ⟨rfl, rfl⟩

end Go.Proofs.Qxb6612531aDoor.asLaw
