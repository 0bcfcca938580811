import Ieee.Arith
namespace Go.Proofs.Ybulkegru
set_option linter.unusedVariables false
set_option linter.unusedSimpArgs false
open Ieee

/-- The greatest finite float64, +Inf, -Inf, as words. -/
def maxW : Nat := 9218868437227405311
def infW : Nat := 9218868437227405312
def ninfW : Nat := 18442240474082181120

theorem sw : double.signWeight = 9223372036854775808 := by decide
theorem bn : double.binade = 4503599627370496 := by decide
theorem ir : double.infRung = 9218868437227405312 := by decide
theorem lp : double.leastPlace = -1074 := by decide
theorem read_max : double.read maxW = .number false 9007199254740991 971 := by decide

theorem not_gt {x y : Int} (h : x ≤ y) : (some (compare x y) == some Ordering.gt) = false := by
  have : compare x y ≠ .gt := by
    show compareOfLessAndEq x y ≠ .gt
    unfold compareOfLessAndEq
    by_cases h1 : x < y
    · rw [if_pos h1]; intro h2; cases h2
    · rw [if_neg h1, if_pos (show x = y by omega)]; intro h2; cases h2
  simp [this]

theorem signed_le (s : Bool) (m n k : Nat) (h : m ≤ n) : signed s m 0 ≤ signed false n k := by
  unfold signed
  have hk : n ≤ n <<< k := by
    rw [Nat.shiftLeft_eq]
    exact Nat.le_mul_of_pos_right n (Nat.two_pow_pos k)
  have h0 : m <<< 0 = m := rfl
  rw [h0]
  cases s
  · simp only [Bool.false_eq_true, if_false]; omega
  · simp only [if_true, Bool.false_eq_true, if_false]; omega

theorem num_not_gt (s : Bool) (m : Nat) (i : Int) (hm : m ≤ 9007199254740991) (hi : i ≤ 971) : ((Datum.number s m i).order (.number false 9007199254740991 971) == some Ordering.gt) = false := by
  show (some (compare (signed s m (i - min i 971).toNat) (signed false 9007199254740991 (971 - min i 971).toNat)) == some Ordering.gt) = false
  rw [Int.min_eq_left hi, Int.sub_self]
  exact not_gt (signed_le s m 9007199254740991 _ hm)

/-- 'f > MaxFloat64': +Inf alone. -/
theorem gt_max (b : Nat) (hb : b < 18446744073709551616) : (double.order b maxW == some Ordering.gt) = decide (b = infW) := by
  unfold Format.order
  rw [read_max]
  unfold Format.read
  rw [sw, bn, ir, lp]
  simp only []
  by_cases h1 : b % 9223372036854775808 < 4503599627370496
  · rw [if_pos h1, num_not_gt _ _ _ (by omega) (by omega)]
    symm
    rw [decide_eq_false_iff_not]
    unfold infW
    omega
  · rw [if_neg h1]
    by_cases h2 : b % 9223372036854775808 < 9218868437227405312
    · rw [if_pos h2, num_not_gt _ _ _ (by omega) (by omega)]
      symm
      rw [decide_eq_false_iff_not]
      unfold infW
      omega
    · rw [if_neg h2]
      by_cases h3 : b % 9223372036854775808 = 9218868437227405312
      · rw [if_pos h3]
        by_cases h4 : b / 9223372036854775808 % 2 = 1
        · have e : (b / 9223372036854775808 % 2 == 1) = true := by simp [h4]
          rw [e]
          have hne : decide (b = infW) = false := by
            rw [decide_eq_false_iff_not]
            unfold infW
            omega
          rw [hne]
          rfl
        · have e : (b / 9223372036854775808 % 2 == 1) = false := by simp [h4]
          rw [e]
          have hne : decide (b = infW) = true := by
            rw [decide_eq_true_iff]
            unfold infW
            omega
          rw [hne]
          rfl
      · rw [if_neg h3]
        have hne : decide (b = infW) = false := by
          rw [decide_eq_false_iff_not]
          unfold infW
          omega
        rw [hne]
        rfl

theorem xor_inf (b : Nat) : decide (b ^^^ 9223372036854775808 = infW) = decide (b = ninfW) := by
  have h : (b ^^^ 9223372036854775808 = infW) ↔ b = ninfW := by
    constructor
    · intro h
      have := congrArg (· ^^^ 9223372036854775808) h
      simp only [Nat.xor_assoc, Nat.xor_self, Nat.xor_zero] at this
      rw [this]
      decide
    · intro h
      subst h
      decide
  simp [h]
theorem xor_lt (b : Nat) (hb : b < 18446744073709551616) : b ^^^ 9223372036854775808 < 18446744073709551616 :=
  Nat.xor_lt_two_pow (n := 64) hb (by decide)
end Go.Proofs.Ybulkegru
