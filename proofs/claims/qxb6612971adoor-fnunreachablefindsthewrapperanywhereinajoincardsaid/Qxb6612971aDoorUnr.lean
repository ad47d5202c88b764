/-
  STATEMENT 2: errors.As (function 24) and unreachable (function 19), each by whatever errors.as does behind it; errors.New; errors.Join of two errors.
-/
import Derived.Test.Qxb6612971aDoorAs
namespace Go.Proofs.Qxb6612971aDoor
open Go.RowKit Go.Extern.Stop Go.Stop Go.Extern

theorem hidU {p : Prop} (h : p) : Hid p := h

attribute [local go_sem] ext26 ext27 ext28 ext32 ext33 ext34 ext95 ext107 ext109 ext110
attribute [local go_sem] valueOf45 type45 methodKind methodElem methodImplements methodAssignableTo methodUnwrap50 kind45 kind41 elem45 implements41

/-- What errors.as is handed. -/
def asArgs (err : Value) (t va : Addr) : Array Value := #[err, .iface 45 (.pointer (some t)), .agg #[.pointer (some ⟨7, 45, none⟩), .pointer (some va), .int .u64 150], .iface 71 (.agg #[.pointer (some ⟨7, 41, none⟩)])]

/-- The listed variable holds the handle of the type error. -/
def HoldsErr (w : World) : Prop := w.cell? ⟨0, 0, none⟩ = some (.iface 71 (.agg #[.pointer (some ⟨7, 37, none⟩)]))

set_option maxHeartbeats 1000000 in
theorem As_of (u : TypeId) (x : Value) (t : Addr) (w : World) (b : Bool) (R : World → Prop) (hg : HoldsErr w)
    (h : Calls Tryd.prog 29 (asArgs (.iface u x) t ⟨w.heap.size, 0, none⟩) ((w.alloc (.cells #[.pointer (some t)] 45)).alloc (.cells #[.pointer (some ⟨7, 45, none⟩), .pointer (some ⟨w.heap.size, 0, none⟩), .int .u64 150] 58)) fun ev w' => ev = .returned (.bool b) ∧ R w') :
    Calls Tryd.prog 24 #[.iface u x, .iface 45 (.pointer (some t))] w fun ev w' => ev = .returned (.bool b) ∧ R w' := by
  unfold HoldsErr at hg
  unfold asArgs at h
  have HC := hidU h
  clear h
  have n8 := isNil45 ⟨w.heap.size, 0, none⟩ t ((w.alloc (.cells #[.pointer (some t)] 45)).alloc (.cells #[.pointer (some ⟨7, 45, none⟩), .pointer (some ⟨w.heap.size, 0, none⟩), .int .u64 150] 58)) (by simp)
  have hlt : 0 < w.heap.size := by
    rcases Nat.eq_zero_or_pos w.heap.size with h0 | h
    · simp [World.cell?, h0] at hg
    · exact h
  have hg2 : ((w.alloc (.cells #[.pointer (some t)] 45)).alloc (.cells #[.pointer (some ⟨7, 45, none⟩), .pointer (some ⟨w.heap.size, 0, none⟩), .int .u64 150] 58)).cell? ⟨0, 0, none⟩ = some (.iface 71 (.agg #[.pointer (some ⟨7, 37, none⟩)])) := by
    rw [World.cell?_alloc_lt _ _ ⟨0, 0, none⟩ (by simp), World.cell?_alloc_lt _ _ ⟨0, 0, none⟩ hlt]; exact hg
  go_enter Tryd.func24, Tryd.ntmps24
  go_wp2_with fail
  refine (HC.out).mono ?_
  rintro e w' ⟨rfl, hR⟩
  go_wp2
  go_ret
  exact ⟨rfl, hR⟩

theorem new_any (s : ByteArray) (w : World) : Calls Tryd.prog 20 #[.string s] w fun ev w' => ev = .returned (.iface 46 (.pointer (some ⟨w.heap.size, 0, none⟩))) ∧ w' = w.alloc (.cells #[.string s] 48) := by
  go_enter Tryd.func20, Tryd.ntmps20
  go_wp2
  go_ret
  exact ⟨rfl, rfl⟩

end Go.Proofs.Qxb6612971aDoor
