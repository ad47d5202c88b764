/-
  STATEMENT 2: unreachable (function 19) by its contracts; the six calls of it that the law makes.
-/
import Derived.Test.Qxb6612971aDoorAsJoin
import Derived.Test.Qxb6612971aDoorUnr
import Derived.Test.Qxb6612971aDoorJoin
namespace Go.Proofs.Qxb6612971aDoor
open Go.RowKit Go.Extern.Stop Go.Stop Go.Extern

theorem HoldsErr.lt {w : World} (h : HoldsErr w) : 0 < w.heap.size := lt_of_cell h
theorem HoldsErr.below {w w' : World} (h : HoldsErr w) (hb : Below w.heap.size w w') : HoldsErr w' :=
  (hb.cell (p := ⟨0, 0, none⟩) h.lt).trans h
theorem HoldsErr.alloc {w : World} (h : HoldsErr w) (o : Obj) : HoldsErr (w.alloc o) := h.below ((Below.refl _ _).alloc (Nat.le_refl _) o)

/-- The world in which errors.as is called. -/
def asWorld (w : World) : World := ((w.alloc (.cells #[.nilIface] 41)).alloc (.cells #[.pointer (some ⟨w.heap.size, 0, none⟩)] 45)).alloc (.cells #[.pointer (some ⟨7, 45, none⟩), .pointer (some ⟨w.heap.size + 1, 0, none⟩), .int .u64 150] 58)

theorem asWorld_below (w : World) : Below w.heap.size w (asWorld w) :=
  (((Below.refl _ _).alloc (Nat.le_refl _) _).alloc (by simp) _).alloc (by simp; omega) _
theorem asWorld_va (w : World) : (asWorld w).cell? ⟨w.heap.size + 1, 0, none⟩ = some (.pointer (some ⟨w.heap.size, 0, none⟩)) := by unfold asWorld; go_simp
theorem asWorld_t (w : World) : (asWorld w).cell? ⟨w.heap.size, 0, none⟩ = some .nilIface := by unfold asWorld; go_simp
theorem asWorld_f (w : World) : (asWorld w).frozen? ⟨w.heap.size, 0, none⟩ = false := by unfold asWorld; go_simp

set_option maxHeartbeats 400000 in
theorem unr_of (u : TypeId) (x : Value) (w : World) (b : Bool) (hg : HoldsErr w)
    (h : Calls Tryd.prog 29 (asArgs (.iface u x) ⟨w.heap.size, 0, none⟩ ⟨w.heap.size + 1, 0, none⟩) (asWorld w) fun ev w' => ev = .returned (.bool b) ∧ Below w.heap.size (asWorld w) w') :
    Calls Tryd.prog 19 #[.iface u x] w fun ev w' => ev = .returned (.bool b) ∧ Below w.heap.size w w' := by
  have C := As_of u x ⟨w.heap.size, 0, none⟩ (w.alloc (.cells #[.nilIface] 41)) b (fun w' => Below w.heap.size (asWorld w) w') (hg.alloc _) (by simpa [asWorld] using h)
  have HC := hidU C
  clear C h hg
  go_enter Tryd.func19, Tryd.ntmps19
  go_wp2_with fail
  refine HC.out.mono ?_
  rintro e w' ⟨rfl, hb⟩
  go_wp2
  go_ret
  exact ⟨rfl, (asWorld_below w).trans hb⟩

theorem unr_nil (w : World) : Calls Tryd.prog 19 #[.nilIface] w fun ev w' => ev = .returned (.bool false) ∧ Below w.heap.size w w' := by
  go_enter Tryd.func19, Tryd.ntmps19
  go_wp2
  go_ret
  exact ⟨rfl, (Below.refl _ _).alloc (Nat.le_refl _) _⟩

theorem unr_plain (e : Addr) (w : World) (hg : HoldsErr w) : Calls Tryd.prog 19 #[.iface 46 (.pointer (some e))] w fun ev w' => ev = .returned (.bool false) ∧ Below w.heap.size w w' :=
  unr_of 46 _ w false hg ((as_plain e _ _ (asWorld w)).mono fun ev w' ⟨he, hw⟩ => ⟨he, by rw [hw]; exact (Below.refl _ _).alloc (asWorld_below w).size _⟩)

theorem unr_wrapped (e : Addr) (w : World) (hg : HoldsErr w) : Calls Tryd.prog 19 #[.iface 41 (.agg #[.iface 46 (.pointer (some e))])] w fun ev w' => ev = .returned (.bool true) ∧ Below w.heap.size w w' :=
  unr_of 41 _ w true hg ((as_hit e _ _ _ _ (asWorld w) (asWorld_va w) (asWorld_t w) (asWorld_f w)).mono fun ev w' ⟨he, hw⟩ => ⟨he, by
    rw [hw]
    exact (((Below.refl _ _).alloc (asWorld_below w).size _).alloc (by have := (asWorld_below w).size; simp; omega) _).setCell (Nat.le_refl _) _⟩)

theorem unr_join_pp (jb ab c : Nat) (e0 e1 : Addr) (w : World) (hg : HoldsErr w) (hj : w.cell? ⟨jb, 0, none⟩ = some (.slice (some ⟨ab, 0, none⟩) 2 c)) (h0 : w.cell? ⟨ab, 0, none⟩ = some (.iface 46 (.pointer (some e0)))) (h1 : w.cell? ⟨ab, 1, none⟩ = some (.iface 46 (.pointer (some e1)))) :
    Calls Tryd.prog 19 #[.iface 50 (.pointer (some ⟨jb, 0, none⟩))] w fun ev w' => ev = .returned (.bool false) ∧ Below w.heap.size w w' := by
  have B := asWorld_below w
  exact unr_of 50 _ w false hg ((as_join_pp jb ab c e0 e1 _ _ (asWorld w) ((B.cell (lt_of_cell hj)).trans hj) ((B.cell (lt_of_cell h0)).trans h0) ((B.cell (lt_of_cell h1)).trans h1)).mono fun ev w' ⟨he, hw⟩ => ⟨he, hw.mono B.size⟩)

theorem unr_join_h (jb ab c : Nat) (e0 : Addr) (w : World) (hg : HoldsErr w) (hj : w.cell? ⟨jb, 0, none⟩ = some (.slice (some ⟨ab, 0, none⟩) 2 c)) (h0 : w.cell? ⟨ab, 0, none⟩ = some (.iface 41 (.agg #[.iface 46 (.pointer (some e0))]))) :
    Calls Tryd.prog 19 #[.iface 50 (.pointer (some ⟨jb, 0, none⟩))] w fun ev w' => ev = .returned (.bool true) ∧ Below w.heap.size w w' := by
  have B := asWorld_below w
  exact unr_of 50 _ w true hg ((as_join_h jb ab c e0 _ _ _ _ (asWorld w) ((B.cell (lt_of_cell hj)).trans hj) ((B.cell (lt_of_cell h0)).trans h0) (asWorld_va w) (asWorld_t w) (asWorld_f w)).mono fun ev w' ⟨he, hw⟩ => ⟨he, hw⟩)

theorem unr_join_ph (jb ab c : Nat) (e0 e1 : Addr) (w : World) (hg : HoldsErr w) (hj : w.cell? ⟨jb, 0, none⟩ = some (.slice (some ⟨ab, 0, none⟩) 2 c)) (h0 : w.cell? ⟨ab, 0, none⟩ = some (.iface 46 (.pointer (some e0)))) (h1 : w.cell? ⟨ab, 1, none⟩ = some (.iface 41 (.agg #[.iface 46 (.pointer (some e1))]))) :
    Calls Tryd.prog 19 #[.iface 50 (.pointer (some ⟨jb, 0, none⟩))] w fun ev w' => ev = .returned (.bool true) ∧ Below w.heap.size w w' := by
  have B := asWorld_below w
  exact unr_of 50 _ w true hg ((as_join_ph jb ab c e0 e1 _ _ _ _ (asWorld w) ((B.cell (lt_of_cell hj)).trans hj) ((B.cell (lt_of_cell h0)).trans h0) ((B.cell (lt_of_cell h1)).trans h1) (asWorld_va w) (asWorld_t w) (asWorld_f w)).mono fun ev w' ⟨he, hw⟩ => ⟨he, hw⟩)

end Go.Proofs.Qxb6612971aDoor
