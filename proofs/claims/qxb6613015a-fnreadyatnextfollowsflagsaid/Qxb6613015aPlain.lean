/-
  STATEMENT 4: the plain law on bits, no dump.
-/
import Derived.Laws.BitsLemmas
import Derived.Laws.BitsAllLaws
import Derived.Laws.Bits64
import Derived.IntWalk
namespace Go.Proofs.Qxb6613015a
open Go

/-- The position behind p: the store's number plus one, in 30 bits; the flags; the count. -/
def qv (p n f : Int) : Int := ((p / 17179869184 + 1) % 1073741824) * 17179869184 + f + n

theorem wraps_u64 (n : Int) (h₀ : 0 ≤ n) (h₁ : n < 2 ^ 64) : IntKind.u64.wrap n = n := by rw [IntKind.wrap_u64]; omega

theorem qv_bd (p n f : Int) (hf0 : 0 ≤ f) (hf1 : f ≤ 2147483648) (hn0 : 0 ≤ n) (hn1 : n ≤ 2147483647) : 0 ≤ qv p n f ∧ qv p n f ≤ 18446744073709551615 := by
  unfold qv
  omega

theorem shl_eq (p : Int) : IntKind.u64.wrap ((p / 17179869184 + 1) * 17179869184) = ((p / 17179869184 + 1) % 1073741824) * 17179869184 := by
  rw [IntKind.wrap_u64]
  omega

theorem next_eq (p n f : Int) (hf : f = 0 ∨ f = 2147483648) (hn0 : 0 ≤ n) (hn1 : n ≤ 2147483647) :
    bits .or .u64 (bits .or .u64 (IntKind.u64.wrap ((p / 17179869184 + 1) * 17179869184)) f) n = qv p n f := by
  rw [shl_eq]
  have hh0 : 0 ≤ (p / 17179869184 + 1) % 1073741824 := Int.emod_nonneg _ (by decide)
  have hh1 : (p / 17179869184 + 1) % 1073741824 < 1073741824 := Int.emod_lt_of_pos _ (by decide)
  unfold qv
  generalize (p / 17179869184 + 1) % 1073741824 = h at hh0 hh1
  rw [bits_join .u64 64 (by decide) wraps_u64 34 (h * 17179869184) f (by omega) (by omega) (by omega) (by omega) (by omega) (by omega)]
  rw [bits_join .u64 64 (by decide) wraps_u64 31 (h * 17179869184 + f) n (by omega) (by omega) (by omega) (by omega) (by omega) (by omega)]

theorem count_eq (p n f : Int) (hf : f = 0 ∨ f = 2147483648) (hn0 : 0 ≤ n) (hn1 : n ≤ 2147483647) : bits .and .u64 (qv p n f) 2147483647 = n := by
  have hb := qv_bd p n f (by omega) (by omega) hn0 hn1
  have h := bits_mask .u64 64 (by decide) wraps_u64 31 (by decide) (qv p n f) hb.1 (by omega)
  have e : ((2 : Int) ^ 31 - 1) = 2147483647 := by decide
  rw [e] at h
  rw [h]
  unfold qv
  omega

theorem and_pow (n i : Nat) : n &&& 2 ^ i = (n.testBit i).toNat * 2 ^ i := by
  apply Nat.eq_of_testBit_eq
  intro j
  rw [Nat.testBit_and, Nat.testBit_two_pow]
  by_cases e : i = j
  · subst e
    cases h : n.testBit i <;> simp
  · cases h : n.testBit i <;> simp [e]

theorem ready_nat (x : Int) (h0 : 0 ≤ x) (h1 : x ≤ 18446744073709551615) : (bits .and .u64 x 2147483648 != 0) = x.toNat.testBit 31 := by
  rw [u64_and x 2147483648 h0 (by omega) (by decide) (by decide)]
  have e : (2147483648 : Int).toNat = 2 ^ 31 := by decide
  rw [e, and_pow]
  cases x.toNat.testBit 31 <;> decide

theorem qv_bit (p n f : Int) (hf : f = 0 ∨ f = 2147483648) (hn0 : 0 ≤ n) (hn1 : n ≤ 2147483647) : (qv p n f).toNat.testBit 31 = decide (f = 2147483648) := by
  have hh0 : 0 ≤ (p / 17179869184 + 1) % 1073741824 := Int.emod_nonneg _ (by decide)
  rw [Nat.testBit_eq_decide_div_mod_eq]
  unfold qv
  generalize (p / 17179869184 + 1) % 1073741824 = h at hh0
  have e : (2 : Nat) ^ 31 = 2147483648 := by decide
  rw [e]
  rcases hf with rfl | rfl
  · simp
    omega
  · simp
    omega

theorem ready_eq (p n f : Int) (hf : f = 0 ∨ f = 2147483648) (hn0 : 0 ≤ n) (hn1 : n ≤ 2147483647) : (bits .and .u64 (qv p n f) 2147483648 != 0) = decide (f = 2147483648) := by
  have hb := qv_bd p n f (by omega) (by omega) hn0 hn1
  rw [ready_nat _ hb.1 hb.2, qv_bit p n f hf hn0 hn1]

theorem held_eq (p n f : Int) (hf : f = 0 ∨ f = 2147483648) (hn0 : 0 ≤ n) (hn1 : n ≤ 2147483647) : (bits .and .u64 (bits .or .u64 (qv p n f) 8589934592) 2147483648 != 0) = decide (f = 2147483648) := by
  have hb := qv_bd p n f (by omega) (by omega) hn0 hn1
  rw [u64_or _ 8589934592 hb.1 (by omega) (by decide) (by decide)]
  have hlt : (qv p n f).toNat < 2 ^ 64 := by omega
  have hor : (qv p n f).toNat ||| (8589934592 : Int).toNat < 2 ^ 64 := Nat.or_lt_two_pow hlt (by decide)
  rw [ready_nat _ (by omega) (by omega)]
  rw [Int.toNat_natCast, Nat.testBit_or, qv_bit p n f hf hn0 hn1]
  have e : ((8589934592 : Int).toNat).testBit 31 = false := by decide
  rw [e, Bool.or_false]

theorem store_eq (p n f : Int) (h0 : 0 ≤ p) (h1 : p ≤ 18446744073709551615) (hf : f = 0 ∨ f = 2147483648) (hn0 : 0 ≤ n) (hn1 : n ≤ 2147483647) :
    qv p n f / 17179869184 = bits .and .u64 (p / 17179869184 + 1) 1073741823 := by
  have h := bits_mask .u64 64 (by decide) wraps_u64 30 (by decide) (p / 17179869184 + 1) (by omega) (by omega)
  have e : ((2 : Int) ^ 30 - 1) = 1073741823 := by decide
  have e2 : ((2 : Int) ^ 30) = 1073741824 := by decide
  rw [e, e2] at h
  rw [h]
  unfold qv
  omega

end Go.Proofs.Qxb6613015a
