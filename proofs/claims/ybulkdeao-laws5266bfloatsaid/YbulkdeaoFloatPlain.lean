/-
  Whole numbers below 2^53 as float64 words: read back they are the very numbers, so the order of two such words is the order of the numbers. No Go in sight.
-/
import Derived.Laws.Cover2
namespace Go.Proofs.Ybulkdeao.FloatPlain
open Ieee

theorem cut_none (neg : Bool) (n : Nat) : Toward.even.cut neg n 0 = n := by
  unfold Toward.cut
  simp [Nat.mod_one]

/-- What a whole number's word reads as: the number at some place not above nought. -/
theorem read_nearest (neg : Bool) (mag : Nat) (h : mag < 9007199254740992) :
    ∃ (m : Nat) (i : Int), i ≤ 0 ∧ double.read (double.nearest neg mag 0) = .number neg m i ∧ m = mag * 2 ^ (-i).toNat := by
  have hsw : double.signWeight = 9223372036854775808 := by decide
  have hbi : double.binade = 4503599627370496 := by decide
  have hir : double.infRung = 9218868437227405312 := by decide
  have hlp : double.leastPlace = -1074 := by decide
  by_cases h0 : mag = 0
  · subst h0
    refine ⟨0, -1074, by decide, ?_, (Nat.zero_mul _).symm⟩
    unfold Format.nearest Format.read Format.word
    rw [hsw, hbi, hir, hlp]
    cases neg <;> simp
  · have hL1 : 2 ^ mag.log2 ≤ mag := Nat.log2_self_le h0
    have hL2 : mag < 2 ^ (mag.log2 + 1) := Nat.lt_log2_self
    have hL : mag.log2 ≤ 52 := by
      by_cases hc : mag.log2 ≤ 52
      · exact hc
      · have : 2 ^ 53 ≤ 2 ^ mag.log2 := Nat.pow_le_pow_right (by decide) (by omega)
        omega
    generalize hl : mag.log2 = L at *
    have e1 : 2 ^ L * 2 ^ (52 - L) = 4503599627370496 := by
      rw [← Nat.pow_add, show L + (52 - L) = 52 by omega]
    have k1 : 4503599627370496 ≤ mag * 2 ^ (52 - L) := by
      rw [← e1]; exact Nat.mul_le_mul_right _ hL1
    have k2 : mag * 2 ^ (52 - L) < 9007199254740992 := by
      have : mag * 2 ^ (52 - L) < 2 ^ (L + 1) * 2 ^ (52 - L) := Nat.mul_lt_mul_of_pos_right hL2 (Nat.two_pow_pos _)
      rw [Nat.pow_succ, Nat.mul_assoc, Nat.mul_comm 2, ← Nat.mul_assoc, e1] at this
      omega
    refine ⟨mag * 2 ^ (52 - L), (L : Int) - 52, by omega, ?_, by rw [show (-((L : Int) - 52)).toNat = 52 - L by omega]⟩
    have hfb : (double.fractionBits : Int) = 52 := rfl
    have hn : double.nearest neg mag 0 = double.word neg ((L + 1022) * 4503599627370496 + mag * 2 ^ (52 - L)) := by
      unfold Format.nearest
      rw [if_neg h0]
      simp only [hl, hbi, hir, hlp, hfb]
      rw [show max ((0 : Int) + (L : Int) - 52) (-1074) = (L : Int) - 52 by omega]
      rw [show ((L : Int) - 52 - 0).toNat = 0 by omega, cut_none, show (0 - ((L : Int) - 52)).toNat = 52 - L by omega, Nat.shiftLeft_eq]
      rw [show ((L : Int) - 52 - -1074).toNat = L + 1022 by omega]
      rw [Nat.min_eq_left (by generalize mag * 2 ^ (52 - L) = K at *; omega)]
    rw [hn]
    generalize mag * 2 ^ (52 - L) = K at *
    unfold Format.read Format.word
    simp only [hsw, hbi, hir, hlp]
    cases neg
    · simp only [Bool.false_eq_true, if_false]
      rw [show ((L + 1022) * 4503599627370496 + K) % 9223372036854775808 = (L + 1022) * 4503599627370496 + K by omega]
      rw [if_neg (by omega), if_pos (by omega)]
      rw [show ((L + 1022) * 4503599627370496 + K) / 9223372036854775808 = 0 by omega]
      rw [show 4503599627370496 + ((L + 1022) * 4503599627370496 + K) % 4503599627370496 = K by omega]
      rw [show (-1074 : Int) + ((((L + 1022) * 4503599627370496 + K) / 4503599627370496 - 1 : Nat) : Int) = (L : Int) - 52 by omega]
      rfl
    · simp only [if_true]
      rw [show (9223372036854775808 + ((L + 1022) * 4503599627370496 + K)) % 9223372036854775808 = (L + 1022) * 4503599627370496 + K by omega]
      rw [if_neg (by omega), if_pos (by omega)]
      rw [show (9223372036854775808 + ((L + 1022) * 4503599627370496 + K)) / 9223372036854775808 = 1 by omega]
      rw [show 4503599627370496 + ((L + 1022) * 4503599627370496 + K) % 4503599627370496 = K by omega]
      rw [show (-1074 : Int) + ((((L + 1022) * 4503599627370496 + K) / 4503599627370496 - 1 : Nat) : Int) = (L : Int) - 52 by omega]
      rfl

theorem signed_eq (x : Int) (m up : Nat) : signed (decide (x < 0)) (x.natAbs * m) up = x * ((m * 2 ^ up : Nat) : Int) := by
  unfold signed
  rw [Nat.shiftLeft_eq, Nat.mul_assoc]
  by_cases h : x < 0
  · rw [if_pos (by simpa using h), Int.natCast_mul, show ((x.natAbs : Nat) : Int) = -x by omega, Int.neg_mul, Int.neg_neg]
  · rw [if_neg (by simpa using h), Int.natCast_mul, show ((x.natAbs : Nat) : Int) = x by omega]

theorem order_words (x y : Int) (hx : x.natAbs < 9007199254740992) (hy : y.natAbs < 9007199254740992) :
    ∃ K : Int, 0 < K ∧ FloatKind.f64.format.order (floatOfInt .f64 x) (floatOfInt .f64 y) = some (compare (x * K) (y * K)) := by
  obtain ⟨m, i, hi, h1, rfl⟩ := read_nearest (decide (x < 0)) x.natAbs hx
  obtain ⟨n, j, hj, h2, rfl⟩ := read_nearest (decide (y < 0)) y.natAbs hy
  have g1 : FloatKind.f64.format.read (floatOfInt .f64 x) = .number (decide (x < 0)) (x.natAbs * 2 ^ (-i).toNat) i := h1
  have g2 : FloatKind.f64.format.read (floatOfInt .f64 y) = .number (decide (y < 0)) (y.natAbs * 2 ^ (-j).toNat) j := h2
  refine ⟨((2 ^ (-(min i j)).toNat : Nat) : Int), by have := Nat.two_pow_pos (-(min i j)).toNat; omega, ?_⟩
  unfold Format.order
  rw [g1, g2]
  show some (compare _ _) = _
  rw [signed_eq, signed_eq, ← Nat.pow_add, ← Nat.pow_add, show (-i).toNat + (i - min i j).toNat = (-(min i j)).toNat by omega, show (-j).toNat + (j - min i j).toNat = (-(min i j)).toNat by omega]

theorem ord_lt (x y : Int) (hx : x.natAbs < 9007199254740992) (hy : y.natAbs < 9007199254740992) (h : x < y) :
    FloatKind.f64.format.order (floatOfInt .f64 x) (floatOfInt .f64 y) = some .lt := by
  obtain ⟨K, hK, e⟩ := order_words x y hx hy
  rw [e, Int.compare_eq_lt.2 (Int.mul_lt_mul_of_pos_right h hK)]
theorem ord_gt (x y : Int) (hx : x.natAbs < 9007199254740992) (hy : y.natAbs < 9007199254740992) (h : y < x) :
    FloatKind.f64.format.order (floatOfInt .f64 x) (floatOfInt .f64 y) = some .gt := by
  obtain ⟨K, hK, e⟩ := order_words x y hx hy
  rw [e, Int.compare_eq_gt.2 (Int.mul_lt_mul_of_pos_right h hK)]
theorem ord_eq (x y : Int) (hx : x.natAbs < 9007199254740992) (hy : y.natAbs < 9007199254740992) (h : x = y) :
    FloatKind.f64.format.order (floatOfInt .f64 x) (floatOfInt .f64 y) = some .eq := by
  obtain ⟨K, hK, e⟩ := order_words x y hx hy
  rw [e, Int.compare_eq_eq.2 (by rw [h])]
end Go.Proofs.Ybulkdeao.FloatPlain
