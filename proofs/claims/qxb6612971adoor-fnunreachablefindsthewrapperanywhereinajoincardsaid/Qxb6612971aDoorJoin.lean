/-
  STATEMENT 2: errors.Join of two errors that are not nil.
-/
import Derived.Test.Qxb6612971aDoorProg
import Derived.WalkKit
import Derived.WalkSmall
namespace Go.Proofs.Qxb6612971aDoor
open Go.RowKit Go.Extern.Stop Go.Stop Go.Extern

theorem make2 (w : World) : (Instr.makeSlice 49 (.int .i64 0) (.int .i64 2)).run Tryd.prog w = .ok (.slice (some ⟨w.heap.size, 0, none⟩) 0 2) (w.alloc (.cells #[.nilIface, .nilIface] 37)) := by kernel_rfl
attribute [local go_sem] make2

set_option maxHeartbeats 400000 in
theorem join_two (b : Nat) (u0 u1 : TypeId) (x0 x1 : Value) (w : World) (h0 : w.cell? ⟨b, 0, none⟩ = some (.iface u0 x0)) (h1 : w.cell? ⟨b, 1, none⟩ = some (.iface u1 x1)) (hb : b < w.heap.size) :
    Calls Tryd.prog 21 #[.slice (some ⟨b, 0, none⟩) 2 2] w fun ev w' => ∃ jb ab c, ev = .returned (.iface 50 (.pointer (some ⟨jb, 0, none⟩))) ∧ w'.cell? ⟨jb, 0, none⟩ = some (.slice (some ⟨ab, 0, none⟩) 2 c) ∧ w'.cell? ⟨ab, 0, none⟩ = some (.iface u0 x0) ∧ w'.cell? ⟨ab, 1, none⟩ = some (.iface u1 x1) ∧ Below w.heap.size w w' := by
  have hb1 : b < w.heap.size + 1 := by omega
  have hb2 : b < w.heap.size + 1 + 1 := by omega
  have hb3 : b < w.heap.size + 1 + 1 + 1 := by omega
  have hn1 : ¬ w.heap.size = b := by omega
  have hn2 : ¬ w.heap.size + 1 = b := by omega
  have hn3 : ¬ b = w.heap.size := by omega
  have hn4 : ¬ b = w.heap.size + 1 := by omega
  go_enter Tryd.func21, Tryd.ntmps21
  go_wp2
  refine wp_loop_rounds 3 ?_
  rw [rounds_succ]
  go_wp2
  rw [rounds_succ]
  go_wp2
  rw [rounds_succ]
  go_wp2_with fail
  refine wp_loop_rounds 3 ?_
  rw [rounds_succ]
  go_wp2_with fail
  rw [rounds_succ]
  go_wp2_with fail
  rw [rounds_succ]
  go_wp2_with fail
  go_ret
  refine ⟨w.heap.size + 1, w.heap.size, 2, rfl, ?_, ?_, ?_, ?_⟩
  · go_simp
  · go_simp
  · go_simp
  · exact ((((Below.refl _ _).alloc (Nat.le_refl _) _).alloc (by simp) _).alloc (by simp; omega) _).alloc (by simp; omega) _

end Go.Proofs.Qxb6612971aDoor
