/-
  STATEMENT 2: CLOSED FACTS on the model's entries for internal/reflectlite at this program's types: 41: driftsum.unreachableError, 45: a pointer to it, 46: a pointer to errors.errorString, 50: a pointer to errors.joinError, 37: error, 71: reflectlite's rtype, 58: reflectlite's Value; the dump has 7 package-level variables. Then three small laws on the entries that read or write memory. After the guide's worked text for errors.As at a concrete target, turned to a target that is a struct.
-/
import Derived.Test.Qxb6612971aDoorProg
import Derived.WalkKit
import Derived.LaidEql
import Derived.Stop.Asserts
import Derived.RowKitTokens
namespace Go.Proofs.Qxb6612971aDoor
open Go.RowKit Go.Extern.Stop Go.Stop Go.Extern

theorem valueOf45 (t : Addr) (w : World) : (ReflectliteValue.unpack (.iface 45 (.pointer (some t)))).run Tryd.prog w
    = .ok (.agg #[.pointer (some ⟨7, 45, none⟩), .pointer (some ⟨w.heap.size, 0, none⟩), .int .u64 150]) (w.alloc (.cells #[.pointer (some t)] 45)) := by kernel_rfl
theorem type45 (a : Addr) (w : World) : (ReflectliteValue.methodAny (ReflectliteValue.valueError "reflectlite.Value.Type" 0) (fun t _ _ _ => ReflectliteType.toType t) #[.agg #[.pointer (some ⟨7, 45, none⟩), .pointer (some a), .int .u64 150]]).run Tryd.prog w
    = .ok (.iface 71 (.agg #[.pointer (some ⟨7, 45, none⟩)])) w := by kernel_rfl
theorem methodKind (h : Value) (w : World) : (Go.method 270 71 (.agg #[h]) "Kind").run Tryd.prog w = .ok (95, h) w := by kernel_rfl
theorem methodElem (h : Value) (w : World) : (Go.method 270 71 (.agg #[h]) "Elem").run Tryd.prog w = .ok (109, .agg #[h]) w := by kernel_rfl
theorem methodImplements (h : Value) (w : World) : (Go.method 270 71 (.agg #[h]) "Implements").run Tryd.prog w = .ok (110, .agg #[h]) w := by kernel_rfl
theorem methodAssignableTo (h : Value) (w : World) : (Go.method 270 71 (.agg #[h]) "AssignableTo").run Tryd.prog w = .ok (107, .agg #[h]) w := by kernel_rfl
theorem methodUnwrap50 (h : Addr) (w : World) : (Go.method 270 50 (.pointer (some h)) "Unwrap").run Tryd.prog w = .ok (102, .pointer (some h)) w := by kernel_rfl
theorem kind45 (w : World) : ((ReflectliteType.abiMethod fun t => (fun a : Nat => Value.int IntKind.u8 (a : Int)) <$> Rtype.kind t) #[.pointer (some ⟨7, 45, none⟩)]).run Tryd.prog w = .ok (.int .u8 22) w := by kernel_rfl
theorem kind41 (w : World) : ((ReflectliteType.abiMethod fun t => (fun a : Nat => Value.int IntKind.u8 (a : Int)) <$> Rtype.kind t) #[.pointer (some ⟨7, 41, none⟩)]).run Tryd.prog w = .ok (.int .u8 25) w := by kernel_rfl
theorem elem45 (w : World) : (ReflectliteType.method ReflectliteType.elem #[.agg #[.pointer (some ⟨7, 45, none⟩)]]).run Tryd.prog w = .ok (.iface 71 (.agg #[.pointer (some ⟨7, 41, none⟩)])) w := by kernel_rfl
theorem implements41 (w : World) : (ReflectliteType.relation "Implements" ReflectliteType.implements_ #[.agg #[.pointer (some ⟨7, 41, none⟩)], .iface 71 (.agg #[.pointer (some ⟨7, 37, none⟩)])]).run Tryd.prog w = .ok (.bool true) w := by kernel_rfl
theorem typeOf41 (v : Value) (w : World) : (ReflectliteType.typeOf #[.iface 41 v]).run Tryd.prog w = .ok (.iface 71 (.agg #[.pointer (some ⟨7, 41, none⟩)])) w := by kernel_rfl
theorem typeOf46 (v : Value) (w : World) : (ReflectliteType.typeOf #[.iface 46 v]).run Tryd.prog w = .ok (.iface 71 (.agg #[.pointer (some ⟨7, 46, none⟩)])) w := by kernel_rfl
theorem typeOf50 (v : Value) (w : World) : (ReflectliteType.typeOf #[.iface 50 v]).run Tryd.prog w = .ok (.iface 71 (.agg #[.pointer (some ⟨7, 50, none⟩)])) w := by kernel_rfl
theorem assignable41 (w : World) : (ReflectliteType.relation "AssignableTo" ReflectliteType.assignableTo #[.agg #[.pointer (some ⟨7, 41, none⟩)], .iface 71 (.agg #[.pointer (some ⟨7, 41, none⟩)])]).run Tryd.prog w = .ok (.bool true) w := by kernel_rfl
theorem assignable46 (w : World) : (ReflectliteType.relation "AssignableTo" ReflectliteType.assignableTo #[.agg #[.pointer (some ⟨7, 46, none⟩)], .iface 71 (.agg #[.pointer (some ⟨7, 41, none⟩)])]).run Tryd.prog w = .ok (.bool false) w := by kernel_rfl
theorem assignable50 (w : World) : (ReflectliteType.relation "AssignableTo" ReflectliteType.assignableTo #[.agg #[.pointer (some ⟨7, 50, none⟩)], .iface 71 (.agg #[.pointer (some ⟨7, 41, none⟩)])]).run Tryd.prog w = .ok (.bool false) w := by kernel_rfl
theorem valueOf41 (x : Value) (w : World) : (ReflectliteValue.unpack (.iface 41 (.agg #[x]))).run Tryd.prog w
    = .ok (.agg #[.pointer (some ⟨7, 41, none⟩), .pointer (some ⟨w.heap.size, 0, none⟩), .int .u64 153]) (w.alloc (.cells #[x] 41)) := by kernel_rfl

theorem noAs46 (v : Value) (w : World) : (Instr.typeAssert (.iface 46 v) 37 76 true).run Tryd.prog w = .ok (.tuple #[.nilIface, .bool false]) w := run_typeAssert_lacksB Tryd.underlying76 (by kernel_rfl) (by kernel_rfl) v 37 w
theorem noAs50 (v : Value) (w : World) : (Instr.typeAssert (.iface 50 v) 37 76 true).run Tryd.prog w = .ok (.tuple #[.nilIface, .bool false]) w := run_typeAssert_lacksB Tryd.underlying76 (by kernel_rfl) (by kernel_rfl) v 37 w
theorem noUnwrap46 (v : Value) (w : World) : (Instr.typeAssert (.iface 46 v) 37 79 true).run Tryd.prog w = .ok (.tuple #[.nilIface, .bool false]) w := run_typeAssert_lacksB Tryd.underlying79 (by kernel_rfl) (by kernel_rfl) v 37 w
theorem noUnwraps46 (v : Value) (w : World) : (Instr.typeAssert (.iface 46 v) 37 81 true).run Tryd.prog w = .ok (.tuple #[.nilIface, .bool false]) w := run_typeAssert_lacksB Tryd.underlying81 (by kernel_rfl) (by kernel_rfl) v 37 w
theorem noUnwrap50 (v : Value) (w : World) : (Instr.typeAssert (.iface 50 v) 37 79 true).run Tryd.prog w = .ok (.tuple #[.nilIface, .bool false]) w := run_typeAssert_lacksB Tryd.underlying79 (by kernel_rfl) (by kernel_rfl) v 37 w
theorem unwraps50 (v : Value) (w : World) : (Instr.typeAssert (.iface 50 v) 37 81 true).run Tryd.prog w = .ok (.tuple #[.iface 50 v, .bool true]) w := run_typeAssert_hasB Tryd.underlying81 (by kernel_rfl) v 37 w

/-! ### The entries that read or write memory: laws with a premise on the cell -/
theorem rlm (z : Sem Value) (f : TypeId → Addr → Nat → Nat → Sem Value) (v : Value) :
    ReflectliteValue.method z f #[v] = (do match ← ReflectliteValue.parts v with | none => z | some (t, a, fl) => f t a fl (fl % 32)) := rfl
theorem parts45 (a : Addr) (w : World) : (ReflectliteValue.parts (.agg #[.pointer (some ⟨7, 45, none⟩), .pointer (some a), .int .u64 150])).run Tryd.prog w = .ok (some (45, a, 150)) w := by kernel_rfl
theorem isNil45 (a p : Addr) (W : World) (ha : W.cell? a = some (.pointer (some p))) :
    (ReflectliteValue.method (ReflectliteValue.valueError "reflectlite.Value.IsNil" 0) ReflectliteValue.isNil #[.agg #[.pointer (some ⟨7, 45, none⟩), .pointer (some a), .int .u64 150]]).run Tryd.prog W = .ok (.bool false) W := by
  rw [rlm]
  simp only [Sem.run_bind, parts45, Result.andThen]
  simp [ReflectliteValue.isNil, loadVar, isAgg, underlying, Tryd.underlying45, ha, Result.andThen]
theorem elemOf45 (w : World) : (Rtype.elem? 45).run Tryd.prog w = .ok (some 41) w := by kernel_rfl
theorem mk41 (p : Addr) (w : World) : (ReflectliteValue.mk 41 p ReflectliteValue.flagAddr).run Tryd.prog w = .ok (.agg #[.pointer (some ⟨7, 41, none⟩), .pointer (some p), .int .u64 409]) w := by kernel_rfl
theorem elemV45 (a p : Addr) (W : World) (ha : W.cell? a = some (.pointer (some p))) :
    (ReflectliteValue.method (ReflectliteValue.valueError "reflectlite.Value.Elem" 0) ReflectliteValue.elem #[.agg #[.pointer (some ⟨7, 45, none⟩), .pointer (some a), .int .u64 150]]).run Tryd.prog W
      = .ok (.agg #[.pointer (some ⟨7, 41, none⟩), .pointer (some p), .int .u64 409]) W := by
  rw [rlm]
  simp only [Sem.run_bind, parts45, Result.andThen]
  simp [ReflectliteValue.elem, loadVar, isAgg, underlying, Tryd.underlying45, ha, Result.andThen, elemOf45, mk41]
theorem parts41a (a : Addr) (w : World) : (ReflectliteValue.parts (.agg #[.pointer (some ⟨7, 41, none⟩), .pointer (some a), .int .u64 409])).run Tryd.prog w = .ok (some (41, a, 409)) w := by kernel_rfl
theorem parts41 (a : Addr) (w : World) : (ReflectliteValue.parts (.agg #[.pointer (some ⟨7, 41, none⟩), .pointer (some a), .int .u64 153])).run Tryd.prog w = .ok (some (41, a, 153)) w := by kernel_rfl
theorem direct41 (w : World) : (Rtype.directlyAssignable 41 41).run Tryd.prog w = .ok true w := by kernel_rfl
theorem size41 (w : World) : (sizeOf 41).run Tryd.prog w = .ok 1 w := by kernel_rfl
theorem load41 (b : Addr) (x : Value) (W : World) (hb : W.cell? b = some x) : (loadVar 41 b).run Tryd.prog W = .ok (.agg #[x]) W := by
  have h := run_loadCells_list (P := Tryd.prog) (w := W) b [x] (fun j v hj => by
    rcases j with _ | j
    · simp at hj
      subst hj
      simpa [Addr.add] using hb
    · simp at hj)
  simp [loadVar, isAgg, underlying, Tryd.underlying41]
  simp only [List.length_singleton] at h
  rw [h]
  rfl
theorem store41 (ta e : Addr) (old : Value) (W : World) (ht : W.cell? ta = some old) (hf : W.frozen? ta = false) : (storeVar 41 ta (.agg #[.iface 46 (.pointer (some e))])).run Tryd.prog W = .ok () (W.setCell ta (.iface 46 (.pointer (some e)))) := by
  simp [storeVar, Value.cells, storeCells, Addr.add]
  rw [run_store Tryd.prog W ta _ _ (by rfl)]
  simp [ht, hf]
/-- What Set does, its words for the ways that are not gone left open. -/
theorem rls (v x : Value) : ∃ z1 z2 z3 z4 z5 : String, ReflectliteValue.set #[v, x] = (do
    let (some (dst, a, fl), some (src, b, _)) := (← ReflectliteValue.parts v, ← ReflectliteValue.parts x)
      | unsupported (.noEntry z1)
    if fl / ReflectliteValue.flagAddr % 2 == 0 then unsupported (.noEntry z2)
    let val ← loadVar src b
    if ← Rtype.directlyAssignable dst src then storeVar dst a val
    else if ← Rtype.implements dst src then
      if (← Rtype.kind src) == 20 then
        match val with
        | .nilIface => unsupported (.noEntry z3)
        | _ => storeVar dst a val
      else storeVar dst a (.iface src val)
    else panicString (z4 ++ (← Rtype.spelt src) ++ z5 ++ (← Rtype.spelt dst))
    pure (.tuple #[])) := ⟨_, _, _, _, _, rfl⟩
theorem set41 (ta b e : Addr) (old : Value) (W : World) (hb : W.cell? b = some (.iface 46 (.pointer (some e)))) (ht : W.cell? ta = some old) (hf : W.frozen? ta = false) :
    (ReflectliteValue.set #[.agg #[.pointer (some ⟨7, 41, none⟩), .pointer (some ta), .int .u64 409], .agg #[.pointer (some ⟨7, 41, none⟩), .pointer (some b), .int .u64 153]]).run Tryd.prog W
      = .ok (.tuple #[]) (W.setCell ta (.iface 46 (.pointer (some e)))) := by
  obtain ⟨z1, z2, z3, z4, z5, hz⟩ := rls (.agg #[.pointer (some ⟨7, 41, none⟩), .pointer (some ta), .int .u64 409]) (.agg #[.pointer (some ⟨7, 41, none⟩), .pointer (some b), .int .u64 153])
  rw [hz]
  simp only [Sem.run_bind, parts41a, parts41, Result.andThen]
  simp [ReflectliteValue.flagAddr, load41 b _ W hb, Result.andThen, direct41, store41 ta e old W ht hf]

end Go.Proofs.Qxb6612971aDoor
