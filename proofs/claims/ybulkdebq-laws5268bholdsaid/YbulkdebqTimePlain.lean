/-
  The bits of a count of nanoseconds below 2^30, plainly. No Go in sight.
-/
import Derived.Laws.BitsAllLaws
namespace Go.Proofs.Ybulkdebq.TimePlain

theorem or_zero (m : Int) (h1 : 0 ≤ m) (h2 : m ≤ 999999999) : bits .or .u64 0 m = m := by
  rw [u64_or 0 m (by omega) (by omega) (by omega) (by omega)]
  simp; omega
theorem and_63 (m : Int) (h1 : 0 ≤ m) (h2 : m ≤ 999999999) : bits .and .u64 m 9223372036854775808 = 0 := by
  rw [u64_and m _ (by omega) (by omega) (by omega) (by omega)]
  have e : (9223372036854775808 : Int).toNat = 2 ^ 63 := by decide
  have ht : m.toNat.testBit 63 = false := Nat.testBit_lt_two_pow (by omega)
  have z : m.toNat &&& 2 ^ 63 = 0 := by
    apply Nat.eq_of_testBit_eq
    intro i
    rw [Nat.testBit_and, Nat.testBit_two_pow, Nat.zero_testBit]
    by_cases hi : 63 = i
    · subst hi; rw [ht]; rfl
    · simp [hi]
  rw [e, z]; rfl
theorem and_mask (m : Int) (h1 : 0 ≤ m) (h2 : m ≤ 999999999) : bits .and .u64 m 1073741823 = m := by
  rw [u64_and m _ (by omega) (by omega) (by omega) (by omega)]
  have e : (1073741823 : Int).toNat = 2 ^ 30 - 1 := by decide
  rw [e, Nat.and_two_pow_sub_one_eq_mod]
  omega
theorem tdiv_bd (d : Int) (hd1 : -9223372036854775808 ≤ d) (hd2 : d ≤ 9223372036854775807) : -9223372037 ≤ d.tdiv 1000000000 ∧ d.tdiv 1000000000 ≤ 9223372037 := by
  rcases Int.le_total 0 d with h | h
  · rw [Int.tdiv_eq_ediv_of_nonneg h]; omega
  · have e : d.tdiv 1000000000 = -((-d).tdiv 1000000000) := by rw [Int.neg_tdiv, Int.neg_neg]
    rw [e, Int.tdiv_eq_ediv_of_nonneg (by omega)]; omega
theorem tmod_bd (d : Int) : -999999999 ≤ d.tmod 1000000000 ∧ d.tmod 1000000000 ≤ 999999999 := by
  rcases Int.le_total 0 d with h | h
  · rw [Int.tmod_eq_emod_of_nonneg h]; omega
  · have e : d.tmod 1000000000 = -((-d).tmod 1000000000) := by rw [Int.neg_tmod, Int.neg_neg]
    rw [e, Int.tmod_eq_emod_of_nonneg (by omega)]; omega
end Go.Proofs.Ybulkdebq.TimePlain
