/-
  STATEMENT 4: the callees by their contracts, and the law's walk.
-/
import Derived.Test.Qxb6613015aProg
import Derived.Test.Qxb6613015aPlain
import Derived.WalkKit
import Derived.RowKit3
import Derived.KernelRfl
namespace Go.Proofs.Qxb6613015a
open Go.RowKit

theorem ret_int {k : IntKind} {a b : Int} (h : a = b) : Ending.returned (.int k a) = .returned (.int k b) := by rw [h]
theorem ret_bool {a b : Bool} (h : a = b) : Ending.returned (.bool a) = .returned (.bool b) := by rw [h]
theorem hidQ {p : Prop} (h : p) : Hid p := h

theorem next_any (p n f : Int) (w : World) (h0 : 0 ≤ p) (h1 : p ≤ 18446744073709551615) (hf : f = 0 ∨ f = 2147483648) (hn0 : 0 ≤ n) (hn1 : n ≤ 2147483647) :
    Calls Try.prog 7 #[.int .u64 p, .int .i64 n, .int .u64 f] w fun e w' => e = .returned (.int .u64 (qv p n f)) ∧ w' = w := by
  have H := hidQ (next_eq p n f hf hn0 hn1)
  clear hf
  go_enter Try.func7, Try.ntmps7
  go_wp2
  go_ret
  exact ⟨ret_int H.out, rfl⟩

theorem ready_any (x : Int) (b : Bool) (w : World) (h : Hid ((bits .and .u64 x 2147483648 != 0) = b)) :
    Calls Try.prog 8 #[.int .u64 x] w fun e w' => e = .returned (.bool b) ∧ w' = w := by
  go_enter Try.func8, Try.ntmps8
  go_wp2
  go_ret
  exact ⟨ret_bool h.out, rfl⟩

theorem count_any (x n : Int) (w : World) (h : Hid (bits .and .u64 x 2147483647 = n)) (h0 : 0 ≤ n) (h1 : n ≤ 2147483647) :
    Calls Try.prog 9 #[.int .u64 x] w fun e w' => e = .returned (.int .i64 n) ∧ w' = w := by
  go_enter Try.func9, Try.ntmps9
  go_wp2
  go_ret
  exact ⟨ret_int (by rw [h.out]; exact IntWalk.wrap64_in n (by omega)), rfl⟩

/-- The law where the count is in range: the flag's number is f, the flag b. -/
theorem law_in (p n f : Int) (b : Bool) (w : World) (h0 : 0 ≤ p) (h1 : p ≤ 18446744073709551615) (hn0 : 0 ≤ n) (hn1 : n ≤ 2147483647) (hb : (b = false ∧ f = 0) ∨ (b = true ∧ f = 2147483648)) :
    Calls Try.prog 3 #[.int .u64 p, .int .i64 n, .bool b] w fun e w' => e = .returned (.bool true) ∧ w' = w := by
  have hf : f = 0 ∨ f = 2147483648 := by rcases hb with h | h; exact Or.inl h.2; exact Or.inr h.2
  have hd : decide (f = 2147483648) = b := by rcases hb with ⟨rfl, rfl⟩ | ⟨rfl, rfl⟩ <;> rfl
  have C7 := hidQ (next_any p n f w h0 h1 hf hn0 hn1)
  have R1 := hidQ ((ready_eq p n f hf hn0 hn1).trans hd)
  have R2 := hidQ ((held_eq p n f hf hn0 hn1).trans hd)
  have CN := hidQ (count_eq p n f hf hn0 hn1)
  have ST := hidQ (store_eq p n f h0 h1 hf hn0 hn1)
  have hq := qv_bd p n f (by omega) (by omega) hn0 hn1
  obtain ⟨q0, q1⟩ := hq
  rcases hb with ⟨rfl, rfl⟩ | ⟨rfl, rfl⟩
  all_goals
    clear hf hd
    go_enter Try.func3, Try.ntmps3
    go_wp2_with fail
    refine C7.out.mono ?_
    rintro e w' ⟨rfl, rfl⟩
    go_wp2_with fail
    refine (ready_any _ _ _ R1).mono ?_
    rintro e w' ⟨rfl, rfl⟩
    go_wp2_with fail
    refine (ready_any _ _ _ R2).mono ?_
    rintro e w' ⟨rfl, rfl⟩
    go_wp2_with fail
    refine (count_any _ _ _ CN hn0 hn1).mono ?_
    rintro e w' ⟨rfl, rfl⟩
    go_wp2
    go_ret
    exact ⟨ret_bool (by rw [ST.out]; simp), rfl⟩

theorem law_out (p n : Int) (b : Bool) (w : World) (h : n < 0 ∨ 2147483647 < n) :
    Calls Try.prog 3 #[.int .u64 p, .int .i64 n, .bool b] w fun e w' => e = .returned (.bool true) ∧ w' = w := by
  rcases h with h | h
  · go_enter Try.func3, Try.ntmps3
    go_wp2
    go_ret
    exact ⟨rfl, rfl⟩
  · have hn : ¬ n < 0 := by omega
    go_enter Try.func3, Try.ntmps3
    go_wp2
    go_ret
    exact ⟨rfl, rfl⟩

end Go.Proofs.Qxb6613015a
