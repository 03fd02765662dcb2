/-
  errors.As BY ITS CONTRACTS, AT THE TARGET **Refusal: the guide's worked text (Derived/Test/ToyasAs.lean), turned to this program's numbers. 32: *Refusal, 44: **Refusal, 30: error, 64: reflectlite's rtype, 45: *TokenError; 2: how many package-level variables the dump has.
-/
import Derived.Test.Qxb6612531aDoorRows
import Derived.WalkKit
import Derived.LaidEql
import Derived.Stop.Asserts
import Derived.RowKitTokens
namespace Go.Proofs.Qxb6612531aDoor.asLaw
open Go.RowKit Go.Extern.Stop Go.Stop Go.Extern

/-- errors.As(nil, target). -/
theorem as_nil (t : Value) (w : World) :
    Calls Tryd.prog 14 #[.nilIface, t] w fun e w' => e = .returned (.bool false) ∧ w' = w := by
  go_enter Tryd.func14, Tryd.ntmps14
  go_wp2
  go_ret
  exact ⟨rfl, rfl⟩

/-! ### closed facts on the model's entries for internal reflectlite, at this program's types -/
theorem valueOf27 (t : Addr) (w : World) : (ReflectliteValue.unpack (.iface 44 (.pointer (some t)))).run Tryd.prog w
    = .ok (.agg #[.pointer (some ⟨2, 44, none⟩), .pointer (some ⟨w.heap.size, 0, none⟩), .int .u64 150]) (w.alloc (.cells #[.pointer (some t)] 44)) := by kernel_rfl
theorem type27 (a : Addr) (w : World) : (ReflectliteValue.methodAny (ReflectliteValue.valueError "reflectlite.Value.Type" 0) (fun t _ _ _ => ReflectliteType.toType t) #[.agg #[.pointer (some ⟨2, 44, none⟩), .pointer (some a), .int .u64 150]]).run Tryd.prog w
    = .ok (.iface 64 (.agg #[.pointer (some ⟨2, 44, none⟩)])) w := by kernel_rfl
theorem methodKind (h : Value) (w : World) : (Go.method 216 64 (.agg #[h]) "Kind").run Tryd.prog w = .ok (38, h) w := by kernel_rfl
theorem kind27 (w : World) : ((ReflectliteType.abiMethod fun t => (fun a : Nat => Value.int IntKind.u8 (a : Int)) <$> Rtype.kind t) #[.pointer (some ⟨2, 44, none⟩)]).run Tryd.prog w = .ok (.int .u8 22) w := by kernel_rfl
theorem kind25 (w : World) : ((ReflectliteType.abiMethod fun t => (fun a : Nat => Value.int IntKind.u8 (a : Int)) <$> Rtype.kind t) #[.pointer (some ⟨2, 32, none⟩)]).run Tryd.prog w = .ok (.int .u8 22) w := by kernel_rfl

/-! ### the entries that read or write memory -/
theorem rlm (z : Sem Value) (f : TypeId → Addr → Nat → Nat → Sem Value) (v : Value) :
    ReflectliteValue.method z f #[v] = (do match ← ReflectliteValue.parts v with | none => z | some (t, a, fl) => f t a fl (fl % 32)) := rfl
theorem parts27 (a : Addr) (w : World) : (ReflectliteValue.parts (.agg #[.pointer (some ⟨2, 44, none⟩), .pointer (some a), .int .u64 150])).run Tryd.prog w = .ok (some (44, a, 150)) w := by kernel_rfl
/-- (Value).IsNil at the Value of a **Refusal that is not nil. -/
theorem isNil27 (a p : Addr) (W : World) (ha : W.cell? a = some (.pointer (some p))) :
    (ReflectliteValue.method (ReflectliteValue.valueError "reflectlite.Value.IsNil" 0) ReflectliteValue.isNil #[.agg #[.pointer (some ⟨2, 44, none⟩), .pointer (some a), .int .u64 150]]).run Tryd.prog W = .ok (.bool false) W := by
  rw [rlm]
  simp only [Sem.run_bind, parts27, Result.andThen]
  simp [ReflectliteValue.isNil, loadVar, isAgg, underlying, Tryd.underlying44, ha, Result.andThen]

theorem methodElem (h : Value) (w : World) : (Go.method 216 64 (.agg #[h]) "Elem").run Tryd.prog w = .ok (50, .agg #[h]) w := by kernel_rfl
theorem methodImplements (h : Value) (w : World) : (Go.method 216 64 (.agg #[h]) "Implements").run Tryd.prog w = .ok (51, .agg #[h]) w := by kernel_rfl
theorem methodAssignableTo (h : Value) (w : World) : (Go.method 216 64 (.agg #[h]) "AssignableTo").run Tryd.prog w = .ok (48, .agg #[h]) w := by kernel_rfl
theorem elem27 (w : World) : (ReflectliteType.method ReflectliteType.elem #[.agg #[.pointer (some ⟨2, 44, none⟩)]]).run Tryd.prog w = .ok (.iface 64 (.agg #[.pointer (some ⟨2, 32, none⟩)])) w := by kernel_rfl
theorem implements25 (w : World) : (ReflectliteType.relation "Implements" ReflectliteType.implements_ #[.agg #[.pointer (some ⟨2, 32, none⟩)], .iface 64 (.agg #[.pointer (some ⟨2, 30, none⟩)])]).run Tryd.prog w = .ok (.bool true) w := by kernel_rfl
theorem typeOf25 (v : Value) (w : World) : (ReflectliteType.typeOf #[.iface 32 v]).run Tryd.prog w = .ok (.iface 64 (.agg #[.pointer (some ⟨2, 32, none⟩)])) w := by kernel_rfl
theorem assignable25 (w : World) : (ReflectliteType.relation "AssignableTo" ReflectliteType.assignableTo #[.agg #[.pointer (some ⟨2, 32, none⟩)], .iface 64 (.agg #[.pointer (some ⟨2, 32, none⟩)])]).run Tryd.prog w = .ok (.bool true) w := by kernel_rfl
theorem valueOf25 (e : Addr) (w : World) : (ReflectliteValue.unpack (.iface 32 (.pointer (some e)))).run Tryd.prog w
    = .ok (.agg #[.pointer (some ⟨2, 32, none⟩), .pointer (some ⟨w.heap.size, 0, none⟩), .int .u64 150]) (w.alloc (.cells #[.pointer (some e)] 32)) := by kernel_rfl

theorem elemOf27 (w : World) : (Rtype.elem? 44).run Tryd.prog w = .ok (some 32) w := by kernel_rfl
theorem mk25 (p : Addr) (w : World) : (ReflectliteValue.mk 32 p ReflectliteValue.flagAddr).run Tryd.prog w = .ok (.agg #[.pointer (some ⟨2, 32, none⟩), .pointer (some p), .int .u64 406]) w := by kernel_rfl
/-- (Value).Elem at the Value of a **Refusal that is not nil: the Value of the *Refusal variable that it points to, addressable. -/
theorem elemV27 (a p : Addr) (W : World) (ha : W.cell? a = some (.pointer (some p))) :
    (ReflectliteValue.method (ReflectliteValue.valueError "reflectlite.Value.Elem" 0) ReflectliteValue.elem #[.agg #[.pointer (some ⟨2, 44, none⟩), .pointer (some a), .int .u64 150]]).run Tryd.prog W
      = .ok (.agg #[.pointer (some ⟨2, 32, none⟩), .pointer (some p), .int .u64 406]) W := by
  rw [rlm]
  simp only [Sem.run_bind, parts27, Result.andThen]
  simp [ReflectliteValue.elem, loadVar, isAgg, underlying, Tryd.underlying44, ha, Result.andThen, elemOf27, mk25]
/-- Set's unfolding; the texts of its refusals do not matter here -/
theorem rls (v x : Value) : ∃ s1 s2 s3 s4 s5 : String, ReflectliteValue.set #[v, x] = (do
    let (some (dst, a, fl), some (src, b, _)) := (← ReflectliteValue.parts v, ← ReflectliteValue.parts x)
      | unsupported (.noEntry s1)
    if fl / ReflectliteValue.flagAddr % 2 == 0 then unsupported (.noEntry s2)
    let val ← loadVar src b
    if ← Rtype.directlyAssignable dst src then storeVar dst a val
    else if ← Rtype.implements dst src then
      if (← Rtype.kind src) == 20 then
        match val with
        | .nilIface => unsupported (.noEntry s3)
        | _ => storeVar dst a val
      else storeVar dst a (.iface src val)
    else panicString (s4 ++ (← Rtype.spelt src) ++ s5 ++ (← Rtype.spelt dst))
    pure (.tuple #[])) := ⟨_, _, _, _, _, rfl⟩
theorem parts25a (a : Addr) (w : World) : (ReflectliteValue.parts (.agg #[.pointer (some ⟨2, 32, none⟩), .pointer (some a), .int .u64 406])).run Tryd.prog w = .ok (some (32, a, 406)) w := by kernel_rfl
theorem parts25 (a : Addr) (w : World) : (ReflectliteValue.parts (.agg #[.pointer (some ⟨2, 32, none⟩), .pointer (some a), .int .u64 150])).run Tryd.prog w = .ok (some (32, a, 150)) w := by kernel_rfl
theorem direct25 (w : World) : (Rtype.directlyAssignable 32 32).run Tryd.prog w = .ok true w := by kernel_rfl
theorem size25 (w : World) : (sizeOf 32).run Tryd.prog w = .ok 1 w := by kernel_rfl
/-- (Value).Set: the *Refusal variable at 'ta' gets what the Value's own variable 'b' holds. -/
theorem set25 (ta b e : Addr) (old : Value) (W : World) (hb : W.cell? b = some (.pointer (some e))) (ht : W.cell? ta = some old) (hf : W.frozen? ta = false) :
    (ReflectliteValue.set #[.agg #[.pointer (some ⟨2, 32, none⟩), .pointer (some ta), .int .u64 406], .agg #[.pointer (some ⟨2, 32, none⟩), .pointer (some b), .int .u64 150]]).run Tryd.prog W
      = .ok (.tuple #[]) (W.setCell ta (.pointer (some e))) := by
  obtain ⟨s1, s2, s3, s4, s5, h⟩ := rls (.agg #[.pointer (some ⟨2, 32, none⟩), .pointer (some ta), .int .u64 406]) (.agg #[.pointer (some ⟨2, 32, none⟩), .pointer (some b), .int .u64 150])
  rw [h]
  clear h
  simp only [Sem.run_bind, parts25a, parts25, Result.andThen]
  simp [ReflectliteValue.flagAddr, loadVar, isAgg, underlying, Tryd.underlying32, hb, Result.andThen, direct25, storeVar, Value.cells, storeCells, Addr.add]
  rw [run_store Tryd.prog W ta _ _ (by rfl)]
  simp [ht, hf]

set_option maxHeartbeats 4000000 in
theorem as_hit (e t : Addr) (old : Value) (w : World) (hg : w.cell? ⟨1, 0, none⟩ = some (.iface 64 (.agg #[.pointer (some ⟨2, 30, none⟩)]))) (ht0 : w.cell? t = some old) (hf0 : w.frozen? t = false) :
    Calls Tryd.prog 14 #[.iface 32 (.pointer (some e)), .iface 44 (.pointer (some t))] w fun ev w' => ev = .returned (.bool true) ∧ w' = ((((w.alloc (.cells #[.pointer (some t)] 44)).alloc (.cells #[.pointer (some ⟨2, 44, none⟩), .pointer (some ⟨w.heap.size, 0, none⟩), .int .u64 150] 53)).alloc (.cells #[.pointer (some ⟨2, 44, none⟩), .pointer (some ⟨w.heap.size, 0, none⟩), .int .u64 150] 53)).alloc (.cells #[.pointer (some e)] 32)).setCell t (.pointer (some e)) := by
  have h6 := @run_callFunc_extern Tryd.prog 17 _ (fun args => ReflectliteValue.unpack (args.getD 0 (.tuple #[]))) Tryd.func17 (by kernel_rfl) (by kernel_rfl) (by kernel_rfl) (by kernel_rfl)
  have h7 := @run_callFunc_extern Tryd.prog 18 _ (ReflectliteValue.methodAny (ReflectliteValue.valueError "reflectlite.Value.Type" 0) (fun t _ _ _ => ReflectliteType.toType t)) Tryd.func18 (by kernel_rfl) (by kernel_rfl) (by kernel_rfl) (by kernel_rfl)
  have h8 := @run_callFunc_extern Tryd.prog 19 _ (ReflectliteValue.method (ReflectliteValue.valueError "reflectlite.Value.IsNil" 0) ReflectliteValue.isNil) Tryd.func19 (by kernel_rfl) (by kernel_rfl) (by kernel_rfl) (by kernel_rfl)
  have h27 := @run_callFunc_extern Tryd.prog 38 _ (ReflectliteType.abiMethod fun t => do pure (.int .u8 (← Rtype.kind t))) Tryd.func38 (by kernel_rfl) (by kernel_rfl) (by kernel_rfl) (by kernel_rfl)
  have h37 := @run_callFunc_extern Tryd.prog 50 _ (ReflectliteType.method ReflectliteType.elem) Tryd.func50 (by kernel_rfl) (by kernel_rfl) (by kernel_rfl) (by kernel_rfl)
  have h38 := @run_callFunc_extern Tryd.prog 51 _ (ReflectliteType.relation "Implements" ReflectliteType.implements_) Tryd.func51 (by kernel_rfl) (by kernel_rfl) (by kernel_rfl) (by kernel_rfl)
  have h10 := @run_callFunc_extern Tryd.prog 21 _ ReflectliteType.typeOf Tryd.func21 (by kernel_rfl) (by kernel_rfl) (by kernel_rfl) (by kernel_rfl)
  have h35 := @run_callFunc_extern Tryd.prog 48 _ (ReflectliteType.relation "AssignableTo" ReflectliteType.assignableTo) Tryd.func48 (by kernel_rfl) (by kernel_rfl) (by kernel_rfl) (by kernel_rfl)
  have h11 := @run_callFunc_extern Tryd.prog 22 _ (ReflectliteValue.method (ReflectliteValue.valueError "reflectlite.Value.Elem" 0) ReflectliteValue.elem) Tryd.func22 (by kernel_rfl) (by kernel_rfl) (by kernel_rfl) (by kernel_rfl)
  have h12 := @run_callFunc_extern Tryd.prog 23 _ ReflectliteValue.set Tryd.func23 (by kernel_rfl) (by kernel_rfl) (by kernel_rfl) (by kernel_rfl)
  have tO := typeOf25
  have mA := methodAssignableTo
  have a25 := assignable25
  have v25 := valueOf25
  have f6 := valueOf27
  have f7 := type27
  have mK := methodKind
  have mE := methodElem
  have mI := methodImplements
  have k27 := kind27
  have k25 := kind25
  have e27 := elem27
  have i25 := implements25
  have n8 := isNil27 ⟨w.heap.size, 0, none⟩ t ((w.alloc (.cells #[.pointer (some t)] 44)).alloc (.cells #[.pointer (some ⟨2, 44, none⟩), .pointer (some ⟨w.heap.size, 0, none⟩), .int .u64 150] 53)) (by simp)
  have hlt : 1 < w.heap.size := World.block_lt_of_cell? _ _ hg
  have hg2 : ((w.alloc (.cells #[.pointer (some t)] 44)).alloc (.cells #[.pointer (some ⟨2, 44, none⟩), .pointer (some ⟨w.heap.size, 0, none⟩), .int .u64 150] 53)).cell? ⟨1, 0, none⟩ = some (.iface 64 (.agg #[.pointer (some ⟨2, 30, none⟩)])) := by
    rw [World.cell?_alloc_lt _ _ ⟨1, 0, none⟩ (by simp; omega), World.cell?_alloc_lt _ _ ⟨1, 0, none⟩ hlt]; exact hg
  have htl : t.block < w.heap.size := by
    rcases Nat.lt_or_ge t.block w.heap.size with h | h
    · exact h
    · simp [World.cell?, Array.getElem?_eq_none h] at ht0
  have el := elemV27 ⟨w.heap.size, 0, none⟩ t (((w.alloc (.cells #[.pointer (some t)] 44)).alloc (.cells #[.pointer (some ⟨2, 44, none⟩), .pointer (some ⟨w.heap.size, 0, none⟩), .int .u64 150] 53)).alloc (.cells #[.pointer (some ⟨2, 44, none⟩), .pointer (some ⟨w.heap.size, 0, none⟩), .int .u64 150] 53)) (by rw [World.cell?_alloc_lt _ _ ⟨w.heap.size, 0, none⟩ (by simp; omega)]; simp)
  have st := set25 t ⟨w.heap.size + 1 + 1 + 1, 0, none⟩ e old ((((w.alloc (.cells #[.pointer (some t)] 44)).alloc (.cells #[.pointer (some ⟨2, 44, none⟩), .pointer (some ⟨w.heap.size, 0, none⟩), .int .u64 150] 53)).alloc (.cells #[.pointer (some ⟨2, 44, none⟩), .pointer (some ⟨w.heap.size, 0, none⟩), .int .u64 150] 53)).alloc (.cells #[.pointer (some e)] 32))
    (by rw [World.cell?_alloc_at _ _ _ _ (by simp)]; rfl)
    (by rw [World.cell?_alloc_lt _ _ t (by simp; omega), World.cell?_alloc_lt _ _ t (by simp; omega), World.cell?_alloc_lt _ _ t (by simp; omega), World.cell?_alloc_lt _ _ t htl]; exact ht0)
    (by rw [World.frozen?_alloc_old _ _ t (by simp; omega), World.frozen?_alloc_old _ _ t (by simp; omega), World.frozen?_alloc_old _ _ t (by simp; omega), World.frozen?_alloc_old _ _ t (Nat.ne_of_lt htl)]; exact hf0)
  go_enter Tryd.func14, Tryd.ntmps14
  go_wp2
  refine wp_loop_rounds 1 ?_
  rw [rounds_succ]
  go_wp2
  go_ret
  exact ⟨rfl, rfl⟩
end Go.Proofs.Qxb6612531aDoor.asLaw
