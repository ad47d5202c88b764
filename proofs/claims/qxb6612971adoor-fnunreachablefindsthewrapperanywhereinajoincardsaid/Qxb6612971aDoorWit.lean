/-
  STATEMENT 2: the witness: one start at which the row's condition is met, and that it has its shape.
-/
import Derived.Test.Qxb6612971aDoorRows
import Derived.Test.Qxb6612971aDoorShape
import Derived.ChangeSame
import Derived.ChangeVars
import Derived.JoinedOf
import Derived.LaidLaws
import Derived.LaidHandle
import Derived.Stop.Joined
import Derived.KernelRfl
namespace Go.Proofs.Qxb6612971aDoor

/-- A world with the variable's cell laid. -/
def laidOf (w0 : World) : World :=
  { w0 with heap := w0.heap.modify 0 fun
      | .cells _ t frozen => .cells #[.iface 71 (.agg #[.pointer (some ⟨7, 37, none⟩)])] t frozen
      | o => o }
theorem laid_met (os : Os) (args : Array Value) : laidMetH Tryd.prog Rows.fnUnreachableFindsTheWrapperAnywhereInAJoinRow.laid ((laidOf (World.holding Tryd.prog os ⟨#[], #[], []⟩)).forCall (fun _ _ => 0) ⟨#[], args, []⟩).memory :=
  laidMetH_of_parts (laidMet_nil _ _) (by kernel_rfl)

theorem wit_rest (os : Os) (args : Array Value) : (((laidOf (World.holding Tryd.prog os ⟨#[], #[], []⟩)).forCall (fun _ _ => 0) ⟨#[], args, []⟩).heap.toList.drop Tryd.prog.globals.size).take ((begin Tryd.prog (fun _ _ => 0) default).world.heap.size - Tryd.prog.globals.size) =
      (begin Tryd.prog (fun _ _ => 0) default).world.heap.toList.drop Tryd.prog.globals.size := by kernel_rfl

theorem sizeGlobals : Tryd.prog.globals.size = 7 := by kernel_rfl
theorem wit_0 (os : Os) (args : Array Value) : oneFastB Tryd.prog (((begin Tryd.prog (fun _ _ => 0) default).world).heap[0]?) (((laidOf (World.holding Tryd.prog os ⟨#[], #[], []⟩)).forCall (fun _ _ => 0) ⟨#[], args, []⟩).heap[0]?) = true := by kernel_rfl
theorem wit_1 (os : Os) (args : Array Value) : oneFastB Tryd.prog (((begin Tryd.prog (fun _ _ => 0) default).world).heap[1]?) (((laidOf (World.holding Tryd.prog os ⟨#[], #[], []⟩)).forCall (fun _ _ => 0) ⟨#[], args, []⟩).heap[1]?) = true := by kernel_rfl
theorem wit_2 (os : Os) (args : Array Value) : oneFastB Tryd.prog (((begin Tryd.prog (fun _ _ => 0) default).world).heap[2]?) (((laidOf (World.holding Tryd.prog os ⟨#[], #[], []⟩)).forCall (fun _ _ => 0) ⟨#[], args, []⟩).heap[2]?) = true := by kernel_rfl
theorem wit_3 (os : Os) (args : Array Value) : oneFastB Tryd.prog (((begin Tryd.prog (fun _ _ => 0) default).world).heap[3]?) (((laidOf (World.holding Tryd.prog os ⟨#[], #[], []⟩)).forCall (fun _ _ => 0) ⟨#[], args, []⟩).heap[3]?) = true := by kernel_rfl
theorem wit_4 (os : Os) (args : Array Value) : oneFastB Tryd.prog (((begin Tryd.prog (fun _ _ => 0) default).world).heap[4]?) (((laidOf (World.holding Tryd.prog os ⟨#[], #[], []⟩)).forCall (fun _ _ => 0) ⟨#[], args, []⟩).heap[4]?) = true := by kernel_rfl
theorem wit_5 (os : Os) (args : Array Value) : oneFastB Tryd.prog (((begin Tryd.prog (fun _ _ => 0) default).world).heap[5]?) (((laidOf (World.holding Tryd.prog os ⟨#[], #[], []⟩)).forCall (fun _ _ => 0) ⟨#[], args, []⟩).heap[5]?) = true := by kernel_rfl
theorem wit_6 (os : Os) (args : Array Value) : oneFastB Tryd.prog (((begin Tryd.prog (fun _ _ => 0) default).world).heap[6]?) (((laidOf (World.holding Tryd.prog os ⟨#[], #[], []⟩)).forCall (fun _ _ => 0) ⟨#[], args, []⟩).heap[6]?) = true := by kernel_rfl

theorem wit_shaped (os : Os) (args : Array Value) : ((laidOf (World.holding Tryd.prog os ⟨#[], #[], []⟩)).forCall (fun _ _ => 0) ⟨#[], args, []⟩).Shaped Tryd.prog := by
  refine shaped_of_fast (fun g hg => ?_) (wit_rest os args)
  rw [sizeGlobals] at hg
  match g, hg with
  | 0, _ => exact wit_0 os args
  | 1, _ => exact wit_1 os args
  | 2, _ => exact wit_2 os args
  | 3, _ => exact wit_3 os args
  | 4, _ => exact wit_4 os args
  | 5, _ => exact wit_5 os args
  | 6, _ => exact wit_6 os args

end Go.Proofs.Qxb6612971aDoor
