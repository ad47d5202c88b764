/-
  STATEMENT 2: errors.as (function 29) and errors.As (function 24) by their contracts, at the target *unreachableError.
-/
import Derived.Test.Qxb6612971aDoorFacts
import Derived.WalkSmall
namespace Go.Proofs.Qxb6612971aDoor
open Go.RowKit Go.Extern.Stop Go.Stop Go.Extern

theorem ext26 (args : Array Value) (w : World) : (callFunc 26 args).run Tryd.prog w = ((ReflectliteValue.unpack (args.getD 0 (.tuple #[]))).run Tryd.prog w).andThen fun v w' => .ok (.value v) w' :=
  run_callFunc_extern (e := fun args => ReflectliteValue.unpack (args.getD 0 (.tuple #[]))) Tryd.func26 (by kernel_rfl) (by kernel_rfl) (by kernel_rfl) (by kernel_rfl) args w
theorem ext27 (args : Array Value) (w : World) : (callFunc 27 args).run Tryd.prog w = ((ReflectliteValue.methodAny (ReflectliteValue.valueError "reflectlite.Value.Type" 0) (fun t _ _ _ => ReflectliteType.toType t) args).run Tryd.prog w).andThen fun v w' => .ok (.value v) w' :=
  run_callFunc_extern Tryd.func27 (by kernel_rfl) (by kernel_rfl) (by kernel_rfl) (by kernel_rfl) args w
theorem ext28 (args : Array Value) (w : World) : (callFunc 28 args).run Tryd.prog w = ((ReflectliteValue.method (ReflectliteValue.valueError "reflectlite.Value.IsNil" 0) ReflectliteValue.isNil args).run Tryd.prog w).andThen fun v w' => .ok (.value v) w' :=
  run_callFunc_extern Tryd.func28 (by kernel_rfl) (by kernel_rfl) (by kernel_rfl) (by kernel_rfl) args w
theorem ext32 (args : Array Value) (w : World) : (callFunc 32 args).run Tryd.prog w = ((ReflectliteType.typeOf args).run Tryd.prog w).andThen fun v w' => .ok (.value v) w' :=
  run_callFunc_extern Tryd.func32 (by kernel_rfl) (by kernel_rfl) (by kernel_rfl) (by kernel_rfl) args w
theorem ext33 (args : Array Value) (w : World) : (callFunc 33 args).run Tryd.prog w = ((ReflectliteValue.method (ReflectliteValue.valueError "reflectlite.Value.Elem" 0) ReflectliteValue.elem args).run Tryd.prog w).andThen fun v w' => .ok (.value v) w' :=
  run_callFunc_extern Tryd.func33 (by kernel_rfl) (by kernel_rfl) (by kernel_rfl) (by kernel_rfl) args w
theorem ext34 (args : Array Value) (w : World) : (callFunc 34 args).run Tryd.prog w = ((ReflectliteValue.set args).run Tryd.prog w).andThen fun v w' => .ok (.value v) w' :=
  run_callFunc_extern Tryd.func34 (by kernel_rfl) (by kernel_rfl) (by kernel_rfl) (by kernel_rfl) args w
theorem ext95 (args : Array Value) (w : World) : (callFunc 95 args).run Tryd.prog w = (((ReflectliteType.abiMethod fun t => (fun a : Nat => Value.int IntKind.u8 (a : Int)) <$> Rtype.kind t) args).run Tryd.prog w).andThen fun v w' => .ok (.value v) w' :=
  run_callFunc_extern Tryd.func95 (by kernel_rfl) (by kernel_rfl) (by kernel_rfl) (by kernel_rfl) args w
theorem ext107 (args : Array Value) (w : World) : (callFunc 107 args).run Tryd.prog w = ((ReflectliteType.relation "AssignableTo" ReflectliteType.assignableTo args).run Tryd.prog w).andThen fun v w' => .ok (.value v) w' :=
  run_callFunc_extern Tryd.func107 (by kernel_rfl) (by kernel_rfl) (by kernel_rfl) (by kernel_rfl) args w
theorem ext109 (args : Array Value) (w : World) : (callFunc 109 args).run Tryd.prog w = ((ReflectliteType.method ReflectliteType.elem args).run Tryd.prog w).andThen fun v w' => .ok (.value v) w' :=
  run_callFunc_extern Tryd.func109 (by kernel_rfl) (by kernel_rfl) (by kernel_rfl) (by kernel_rfl) args w
theorem ext110 (args : Array Value) (w : World) : (callFunc 110 args).run Tryd.prog w = ((ReflectliteType.relation "Implements" ReflectliteType.implements_ args).run Tryd.prog w).andThen fun v w' => .ok (.value v) w' :=
  run_callFunc_extern Tryd.func110 (by kernel_rfl) (by kernel_rfl) (by kernel_rfl) (by kernel_rfl) args w

attribute [local go_sem] ext26 ext27 ext28 ext32 ext33 ext34 ext95 ext107 ext109 ext110
attribute [local go_sem] valueOf45 type45 methodKind methodElem methodImplements methodAssignableTo methodUnwrap50 kind45 kind41 elem45 implements41 typeOf41 typeOf46 typeOf50 assignable41 assignable46 assignable50 valueOf41 noAs46 noAs50 noUnwrap46 noUnwraps46 noUnwrap50 unwraps50

/-- errors.as at a plain error: false; one new block. -/
theorem as_plain (e va : Addr) (tv : Value) (w : World) :
    Calls Tryd.prog 29 #[.iface 46 (.pointer (some e)), tv, .agg #[.pointer (some ⟨7, 45, none⟩), .pointer (some va), .int .u64 150], .iface 71 (.agg #[.pointer (some ⟨7, 41, none⟩)])] w
      fun ev w' => ev = .returned (.bool false) ∧ w' = w.alloc (.cells #[.pointer (some ⟨7, 45, none⟩), .pointer (some va), .int .u64 150] 58) := by
  go_enter Tryd.func29, Tryd.ntmps29
  go_wp2
  refine wp_loop_rounds 1 ?_
  rw [rounds_succ]
  go_wp2
  go_ret
  exact ⟨rfl, rfl⟩

end Go.Proofs.Qxb6612971aDoor
