/-
  STATEMENT 3: the callees by their contracts.
-/
import Derived.Test.Qxb6613007aProg
import Derived.WalkKit
import Derived.WalkSmall
import Derived.RowKit3
import Derived.Deep.QuietTactic
import Derived.BigQuiet
import Derived.KernelRfl
namespace Go.Proofs.Qxb6613007a
open Go.RowKit

/-- A Bound, as a value. -/
def bnd (a s m r : Int) (f1 f2 : Bool) : Value := .agg #[.int .i64 a, .int .i64 s, .int .i64 m, .int .i64 r, .bool f1, .bool f2]
def nmA : ByteArray := ⟨#[97, 114, 98, 105, 116, 114, 97, 114, 121]⟩
def nmS : ByteArray := ⟨#[115, 121, 109, 109, 101, 116, 114, 105, 99]⟩
def nmM : ByteArray := ⟨#[109, 97, 110, 105, 102, 101, 115, 116]⟩
def nmR : ByteArray := ⟨#[114, 111, 117, 110, 100, 115]⟩

set_option maxHeartbeats 400000 in
theorem weights_any (a s m r : Int) (f1 f2 : Bool) (w : World) :
    Calls Try.prog 7 #[bnd a s m r f1 f2] w fun e w' => e = .returned (.slice (some ⟨w.heap.size + 1, 0, none⟩) 4 4) ∧
      w' = (w.alloc (.cells #[.int .i64 a, .int .i64 s, .int .i64 m, .int .i64 r, .bool f1, .bool f2] 23)).alloc (.cells #[.string nmA, .int .i64 a, .string nmS, .int .i64 s, .string nmM, .int .i64 m, .string nmR, .int .i64 r] 32) := by
  unfold bnd
  go_enter Try.func7, Try.ntmps7
  go_wp2
  go_ret
  exact ⟨rfl, rfl⟩

set_option maxHeartbeats 400000 in
theorem len_any (a s m r : Int) (f1 f2 : Bool) (w : World) :
    Calls Try.prog 4 #[bnd a s m r f1 f2] w fun e w' => e = .returned (.int .i64 4) ∧ Below w.heap.size w w' := by
  unfold bnd
  go_enter Try.func4, Try.ntmps4
  go_wp2_with fail
  refine (weights_any a s m r f1 f2 _).mono ?_
  rintro e w' ⟨rfl, rfl⟩
  go_wp2
  go_ret
  exact ⟨rfl, (((Below.refl _ _).alloc (Nat.le_refl _) _).alloc (by simp) _).alloc (by simp; omega) _⟩

set_option maxHeartbeats 400000 in
theorem at_0 (a s m r : Int) (f1 f2 : Bool) (w : World) :
    Calls Try.prog 5 #[bnd a s m r f1 f2, .int .i64 0] w fun e w' => e = .returned (.tuple #[.string nmA, .int .i64 a]) ∧ Below w.heap.size w w' := by
  unfold bnd
  go_enter Try.func5, Try.ntmps5
  go_wp2_with fail
  refine (weights_any a s m r f1 f2 _).mono ?_
  rintro e w' ⟨rfl, rfl⟩
  go_wp2
  go_quiet (fail)
  go_wp2
  go_ret2
  exact ⟨rfl, below_drewN (((((Below.refl _ _).alloc (Nat.le_refl _) _).alloc (by simp) _).alloc (by simp; omega) _).alloc (by simp; omega) _) _⟩

set_option maxHeartbeats 400000 in
theorem at_1 (a s m r : Int) (f1 f2 : Bool) (w : World) :
    Calls Try.prog 5 #[bnd a s m r f1 f2, .int .i64 1] w fun e w' => e = .returned (.tuple #[.string nmS, .int .i64 s]) ∧ Below w.heap.size w w' := by
  unfold bnd
  go_enter Try.func5, Try.ntmps5
  go_wp2_with fail
  refine (weights_any a s m r f1 f2 _).mono ?_
  rintro e w' ⟨rfl, rfl⟩
  go_wp2
  go_quiet (fail)
  go_wp2
  go_ret2
  exact ⟨rfl, below_drewN (((((Below.refl _ _).alloc (Nat.le_refl _) _).alloc (by simp) _).alloc (by simp; omega) _).alloc (by simp; omega) _) _⟩

set_option maxHeartbeats 400000 in
theorem at_2 (a s m r : Int) (f1 f2 : Bool) (w : World) :
    Calls Try.prog 5 #[bnd a s m r f1 f2, .int .i64 2] w fun e w' => e = .returned (.tuple #[.string nmM, .int .i64 m]) ∧ Below w.heap.size w w' := by
  unfold bnd
  go_enter Try.func5, Try.ntmps5
  go_wp2_with fail
  refine (weights_any a s m r f1 f2 _).mono ?_
  rintro e w' ⟨rfl, rfl⟩
  go_wp2
  go_quiet (fail)
  go_wp2
  go_ret2
  exact ⟨rfl, below_drewN (((((Below.refl _ _).alloc (Nat.le_refl _) _).alloc (by simp) _).alloc (by simp; omega) _).alloc (by simp; omega) _) _⟩

set_option maxHeartbeats 400000 in
theorem at_3 (a s m r : Int) (f1 f2 : Bool) (w : World) :
    Calls Try.prog 5 #[bnd a s m r f1 f2, .int .i64 3] w fun e w' => e = .returned (.tuple #[.string nmR, .int .i64 r]) ∧ Below w.heap.size w w' := by
  unfold bnd
  go_enter Try.func5, Try.ntmps5
  go_wp2_with fail
  refine (weights_any a s m r f1 f2 _).mono ?_
  rintro e w' ⟨rfl, rfl⟩
  go_wp2
  go_quiet (fail)
  go_wp2
  go_ret2
  exact ⟨rfl, below_drewN (((((Below.refl _ _).alloc (Nat.le_refl _) _).alloc (by simp) _).alloc (by simp; omega) _).alloc (by simp; omega) _) _⟩

set_option maxHeartbeats 400000 in
theorem field_0 (a s m r : Int) (f1 f2 : Bool) (w : World) :
    Calls Try.prog 6 #[bnd a s m r f1 f2, .int .i64 0] w fun e w' => e = .returned (.int .i64 a) ∧ Below w.heap.size w w' := by
  unfold bnd
  go_enter Try.func6, Try.ntmps6
  go_wp2
  go_ret
  exact ⟨rfl, (Below.refl _ _).alloc (Nat.le_refl _) _⟩

set_option maxHeartbeats 400000 in
theorem field_1 (a s m r : Int) (f1 f2 : Bool) (w : World) :
    Calls Try.prog 6 #[bnd a s m r f1 f2, .int .i64 1] w fun e w' => e = .returned (.int .i64 s) ∧ Below w.heap.size w w' := by
  unfold bnd
  go_enter Try.func6, Try.ntmps6
  go_wp2
  go_ret
  exact ⟨rfl, (Below.refl _ _).alloc (Nat.le_refl _) _⟩

set_option maxHeartbeats 400000 in
theorem field_2 (a s m r : Int) (f1 f2 : Bool) (w : World) :
    Calls Try.prog 6 #[bnd a s m r f1 f2, .int .i64 2] w fun e w' => e = .returned (.int .i64 m) ∧ Below w.heap.size w w' := by
  unfold bnd
  go_enter Try.func6, Try.ntmps6
  go_wp2
  go_ret
  exact ⟨rfl, (Below.refl _ _).alloc (Nat.le_refl _) _⟩

set_option maxHeartbeats 400000 in
theorem field_3 (a s m r : Int) (f1 f2 : Bool) (w : World) :
    Calls Try.prog 6 #[bnd a s m r f1 f2, .int .i64 3] w fun e w' => e = .returned (.int .i64 r) ∧ Below w.heap.size w w' := by
  unfold bnd
  go_enter Try.func6, Try.ntmps6
  go_wp2
  go_ret
  exact ⟨rfl, (Below.refl _ _).alloc (Nat.le_refl _) _⟩

end Go.Proofs.Qxb6613007a
