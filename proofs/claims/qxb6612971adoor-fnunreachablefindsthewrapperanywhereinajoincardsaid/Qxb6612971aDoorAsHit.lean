/-
  STATEMENT 2: errors.as (function 29) at the wrapper itself and at a join of two errors; errors.As (function 24); unreachable (function 19).
-/
import Derived.Test.Qxb6612971aDoorAs
namespace Go.Proofs.Qxb6612971aDoor
open Go.RowKit Go.Extern.Stop Go.Stop Go.Extern

attribute [local go_sem] ext26 ext27 ext28 ext32 ext33 ext34 ext95 ext107 ext109 ext110
attribute [local go_sem] valueOf45 type45 methodKind methodElem methodImplements methodAssignableTo methodUnwrap50 kind45 kind41 elem45 implements41 typeOf41 typeOf46 typeOf50 assignable41 assignable46 assignable50 valueOf41 noAs46 noAs50 noUnwrap46 noUnwraps46 noUnwrap50 unwraps50

theorem lt_of_cell {w : World} {a : Addr} {v : Value} (h : w.cell? a = some v) : a.block < w.heap.size := by
  rcases Nat.lt_or_ge a.block w.heap.size with h' | h'
  · exact h'
  · simp [World.cell?, Array.getElem?_eq_none h'] at h

set_option maxHeartbeats 1000000 in
/-- errors.as at the wrapper itself: true; the target's cell is set; two new blocks. -/
theorem as_hit (e va t : Addr) (tv old : Value) (w : World) (hva : w.cell? va = some (.pointer (some t))) (ht : w.cell? t = some old) (hf : w.frozen? t = false) :
    Calls Tryd.prog 29 #[.iface 41 (.agg #[.iface 46 (.pointer (some e))]), tv, .agg #[.pointer (some ⟨7, 45, none⟩), .pointer (some va), .int .u64 150], .iface 71 (.agg #[.pointer (some ⟨7, 41, none⟩)])] w
      fun ev w' => ev = .returned (.bool true) ∧ w' = ((w.alloc (.cells #[.pointer (some ⟨7, 45, none⟩), .pointer (some va), .int .u64 150] 58)).alloc (.cells #[.iface 46 (.pointer (some e))] 41)).setCell t (.iface 46 (.pointer (some e))) := by
  have hval := lt_of_cell hva
  have htl := lt_of_cell ht
  have el := elemV45 va t (w.alloc (.cells #[.pointer (some ⟨7, 45, none⟩), .pointer (some va), .int .u64 150] 58)) (by rw [World.cell?_alloc_lt _ _ va hval]; exact hva)
  have st := set41 t ⟨w.heap.size + 1, 0, none⟩ e old ((w.alloc (.cells #[.pointer (some ⟨7, 45, none⟩), .pointer (some va), .int .u64 150] 58)).alloc (.cells #[.iface 46 (.pointer (some e))] 41))
    (by rw [World.cell?_alloc_at _ _ _ _ (by simp)]; rfl)
    (by rw [World.cell?_alloc_lt _ _ t (by simp; omega), World.cell?_alloc_lt _ _ t htl]; exact ht)
    (by rw [World.frozen?_alloc_old _ _ t (by simp; omega), World.frozen?_alloc_old _ _ t (Nat.ne_of_lt htl)]; exact hf)
  clear hva ht hf
  go_enter Tryd.func29, Tryd.ntmps29
  go_wp2
  refine wp_loop_rounds 1 ?_
  rw [rounds_succ]
  go_wp2
  go_ret
  exact ⟨rfl, rfl⟩

end Go.Proofs.Qxb6612971aDoor
