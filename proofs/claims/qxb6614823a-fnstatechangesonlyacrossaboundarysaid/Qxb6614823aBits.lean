/-
  The plain facts on bits that time.Time's words want: a wall word below 2^30 bears no monotonic mark.
-/
import Derived.Laws.BitsAllLaws
namespace Go.Proofs.Qxb6614823a
open Go

theorem and_low (n : Int) (h0 : 0 ≤ n) (h1 : n < 1000000000) : bits .and .u64 n 1073741823 = n := by
  rw [u64_and n 1073741823 h0 (by omega) (by omega) (by omega)]
  have e : (1073741823 : Int).toNat = 2 ^ 30 - 1 := by decide
  rw [e, Nat.and_two_pow_sub_one_eq_mod]
  omega

theorem and_top_nat (a : Nat) (h : a < 9223372036854775808) : a &&& 9223372036854775808 = 0 := by
  have := nat_bit 63 a
  have e : (2 : Nat) ^ 63 = 9223372036854775808 := by decide
  rw [e] at this
  rw [this]
  have : a / 9223372036854775808 = 0 := by omega
  rw [this]

theorem and_top (n : Int) (h0 : 0 ≤ n) (h1 : n < 1000000000) : bits .and .u64 n 9223372036854775808 = 0 := by
  rw [u64_and n 9223372036854775808 h0 (by omega) (by omega) (by omega)]
  have e : (9223372036854775808 : Int).toNat = 9223372036854775808 := by decide
  rw [e, and_top_nat n.toNat (by omega)]
  rfl

theorem and_two_top (n m : Int) (h0 : 0 ≤ n) (h1 : n < 1000000000) (g0 : 0 ≤ m) (g1 : m < 1000000000) :
    bits .and .u64 (bits .and .u64 n m) 9223372036854775808 = 0 := by
  rw [u64_and n m h0 (by omega) g0 (by omega)]
  have hl : n.toNat &&& m.toNat ≤ n.toNat := Nat.and_le_left
  rw [u64_and _ 9223372036854775808 (by omega) (by omega) (by omega) (by omega)]
  have e : (9223372036854775808 : Int).toNat = 9223372036854775808 := by decide
  rw [e, and_top_nat _ (by omega)]
  rfl

theorem andNot_zero : bits .andNot .u64 0 1073741823 = 0 := by decide

theorem or_zero (n : Int) (h0 : 0 ≤ n) (h1 : n < 1000000000) : bits .or .u64 0 n = n := by
  rw [u64_or 0 n (by omega) (by omega) h0 (by omega)]
  simp
  omega
end Go.Proofs.Qxb6614823a
