/-
  STATEMENT 2: errors.as (function 29) at a join of two errors.
-/
import Derived.Test.Qxb6612971aDoorAsHit
namespace Go.Proofs.Qxb6612971aDoor
open Go.RowKit Go.Extern.Stop Go.Stop Go.Extern

theorem hidJ {p : Prop} (h : p) : Hid p := h

attribute [local go_sem] ext26 ext27 ext28 ext32 ext33 ext34 ext95 ext107 ext109 ext110
attribute [local go_sem] valueOf45 type45 methodKind methodElem methodImplements methodAssignableTo methodUnwrap50 kind45 kind41 elem45 implements41 typeOf41 typeOf46 typeOf50 assignable41 assignable46 assignable50 valueOf41 noAs46 noAs50 noUnwrap46 noUnwraps46 noUnwrap50 unwraps50

theorem unwrap_join (jb : Nat) (s : Option Addr) (n c : Nat) (w : World) (hj : w.cell? ⟨jb, 0, none⟩ = some (.slice s n c)) :
    Calls Tryd.prog 102 #[.pointer (some ⟨jb, 0, none⟩)] w fun ev w' => ev = .returned (.slice s n c) ∧ w' = w := by
  go_enter Tryd.func102, Tryd.ntmps102
  go_wp2
  go_ret
  exact ⟨rfl, rfl⟩

set_option maxHeartbeats 1000000 in
theorem as_join_pp (jb ab c : Nat) (e0 e1 va : Addr) (tv : Value) (w : World) (hj : w.cell? ⟨jb, 0, none⟩ = some (.slice (some ⟨ab, 0, none⟩) 2 c)) (h0 : w.cell? ⟨ab, 0, none⟩ = some (.iface 46 (.pointer (some e0)))) (h1 : w.cell? ⟨ab, 1, none⟩ = some (.iface 46 (.pointer (some e1)))) :
    Calls Tryd.prog 29 #[.iface 50 (.pointer (some ⟨jb, 0, none⟩)), tv, .agg #[.pointer (some ⟨7, 45, none⟩), .pointer (some va), .int .u64 150], .iface 71 (.agg #[.pointer (some ⟨7, 41, none⟩)])] w
      fun ev w' => ev = .returned (.bool false) ∧ Below w.heap.size w w' := by
  have hjl : jb < w.heap.size := lt_of_cell hj
  have hal : ab < w.heap.size := lt_of_cell h0
  have hjl1 : jb < w.heap.size + 1 := by omega
  have hal1 : ab < w.heap.size + 1 := by omega
  have hal2 : ab < w.heap.size + 1 + 1 := by omega
  go_enter Tryd.func29, Tryd.ntmps29
  go_wp2
  refine wp_loop_rounds 1 ?_
  rw [rounds_succ]
  go_wp2_with fail
  refine (unwrap_join jb (some ⟨ab, 0, none⟩) 2 c _ (by rw [World.cell?_alloc_lt _ _ _ hjl]; exact hj)).mono ?_
  rintro e w' ⟨rfl, rfl⟩
  go_wp2_with fail
  refine wp_loop_rounds 3 ?_
  rw [rounds_succ]
  go_wp2_with fail
  refine (as_plain e0 va tv _).mono ?_
  rintro e w' ⟨rfl, rfl⟩
  go_wp2_with fail
  rw [rounds_succ]
  go_wp2_with fail
  refine (as_plain e1 va tv _).mono ?_
  rintro e w' ⟨rfl, rfl⟩
  go_wp2_with fail
  rw [rounds_succ]
  go_wp2_with fail
  go_ret
  exact ⟨rfl, (((Below.refl _ _).alloc (Nat.le_refl _) _).alloc (by simp) _).alloc (by simp; omega) _⟩

set_option maxHeartbeats 1000000 in
/-- A join whose first error is the wrapper. -/
theorem as_join_h (jb ab c : Nat) (e0 va t : Addr) (tv old : Value) (w : World) (hj : w.cell? ⟨jb, 0, none⟩ = some (.slice (some ⟨ab, 0, none⟩) 2 c)) (h0 : w.cell? ⟨ab, 0, none⟩ = some (.iface 41 (.agg #[.iface 46 (.pointer (some e0))])))
    (hva : w.cell? va = some (.pointer (some t))) (ht : w.cell? t = some old) (hf : w.frozen? t = false) :
    Calls Tryd.prog 29 #[.iface 50 (.pointer (some ⟨jb, 0, none⟩)), tv, .agg #[.pointer (some ⟨7, 45, none⟩), .pointer (some va), .int .u64 150], .iface 71 (.agg #[.pointer (some ⟨7, 41, none⟩)])] w
      fun ev w' => ev = .returned (.bool true) ∧ Below t.block w w' := by
  have hjl : jb < w.heap.size := lt_of_cell hj
  have hal : ab < w.heap.size := lt_of_cell h0
  have hval := lt_of_cell hva
  have htl := lt_of_cell ht
  have C := as_hit e0 va t tv old (w.alloc (.cells #[.pointer (some ⟨7, 45, none⟩), .pointer (some va), .int .u64 150] 58))
    (by rw [World.cell?_alloc_lt _ _ va hval]; exact hva) (by rw [World.cell?_alloc_lt _ _ t htl]; exact ht) (by rw [World.frozen?_alloc_old _ _ t (Nat.ne_of_lt htl)]; exact hf)
  have HC := hidJ C
  clear C hva ht hf
  go_enter Tryd.func29, Tryd.ntmps29
  go_wp2
  refine wp_loop_rounds 1 ?_
  rw [rounds_succ]
  go_wp2_with fail
  refine (unwrap_join jb (some ⟨ab, 0, none⟩) 2 c _ (by rw [World.cell?_alloc_lt _ _ _ hjl]; exact hj)).mono ?_
  rintro e w' ⟨rfl, rfl⟩
  go_wp2_with fail
  refine wp_loop_rounds 1 ?_
  rw [rounds_succ]
  go_wp2_with fail
  refine (HC.out).mono ?_
  rintro e w' ⟨rfl, rfl⟩
  go_wp2_with fail
  go_ret
  exact ⟨rfl, (((Below.refl _ _).alloc (Nat.le_of_lt htl) _).alloc (by simp; omega) _ |>.alloc (by simp; omega) _).setCell (Nat.le_refl _) _⟩

set_option maxHeartbeats 1000000 in
/-- A join whose second error is the wrapper, its first a plain one. -/
theorem as_join_ph (jb ab c : Nat) (e0 e1 va t : Addr) (tv old : Value) (w : World) (hj : w.cell? ⟨jb, 0, none⟩ = some (.slice (some ⟨ab, 0, none⟩) 2 c)) (h0 : w.cell? ⟨ab, 0, none⟩ = some (.iface 46 (.pointer (some e0)))) (h1 : w.cell? ⟨ab, 1, none⟩ = some (.iface 41 (.agg #[.iface 46 (.pointer (some e1))])))
    (hva : w.cell? va = some (.pointer (some t))) (ht : w.cell? t = some old) (hf : w.frozen? t = false) :
    Calls Tryd.prog 29 #[.iface 50 (.pointer (some ⟨jb, 0, none⟩)), tv, .agg #[.pointer (some ⟨7, 45, none⟩), .pointer (some va), .int .u64 150], .iface 71 (.agg #[.pointer (some ⟨7, 41, none⟩)])] w
      fun ev w' => ev = .returned (.bool true) ∧ Below t.block w w' := by
  have hjl : jb < w.heap.size := lt_of_cell hj
  have hal : ab < w.heap.size := lt_of_cell h0
  have hal1 : ab < w.heap.size + 1 := by omega
  have hval := lt_of_cell hva
  have htl := lt_of_cell ht
  have C := as_hit e1 va t tv old ((w.alloc (.cells #[.pointer (some ⟨7, 45, none⟩), .pointer (some va), .int .u64 150] 58)).alloc (.cells #[.pointer (some ⟨7, 45, none⟩), .pointer (some va), .int .u64 150] 58))
    (by rw [World.cell?_alloc_lt _ _ va (by simp; omega), World.cell?_alloc_lt _ _ va hval]; exact hva) (by rw [World.cell?_alloc_lt _ _ t (by simp; omega), World.cell?_alloc_lt _ _ t htl]; exact ht) (by rw [World.frozen?_alloc_old _ _ t (by simp; omega), World.frozen?_alloc_old _ _ t (Nat.ne_of_lt htl)]; exact hf)
  have HC := hidJ C
  clear C hva ht hf
  go_enter Tryd.func29, Tryd.ntmps29
  go_wp2
  refine wp_loop_rounds 1 ?_
  rw [rounds_succ]
  go_wp2_with fail
  refine (unwrap_join jb (some ⟨ab, 0, none⟩) 2 c _ (by rw [World.cell?_alloc_lt _ _ _ hjl]; exact hj)).mono ?_
  rintro e w' ⟨rfl, rfl⟩
  go_wp2_with fail
  refine wp_loop_rounds 2 ?_
  rw [rounds_succ]
  go_wp2_with fail
  refine (as_plain e0 va tv _).mono ?_
  rintro e w' ⟨rfl, rfl⟩
  go_wp2_with fail
  rw [rounds_succ]
  go_wp2_with fail
  refine (HC.out).mono ?_
  rintro e w' ⟨rfl, rfl⟩
  go_wp2_with fail
  go_ret
  exact ⟨rfl, ((((Below.refl _ _).alloc (Nat.le_of_lt htl) _).alloc (by simp; omega) _ |>.alloc (by simp; omega) _).alloc (by simp; omega) _).setCell (Nat.le_refl _) _⟩

end Go.Proofs.Qxb6612971aDoor
