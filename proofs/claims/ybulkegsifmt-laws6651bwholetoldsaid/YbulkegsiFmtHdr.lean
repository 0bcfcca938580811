/-
  DERIVED. THE PLAIN LAW OF AN ELEMENT's HEADER, no Go in sight but the numbers' own operations.
-/
import Derived.Test.YbulkegsiFmtErr
namespace Go.Proofs.YbulkegsiFmt
open Go.RowKit
set_option linter.unusedVariables false
set_option linter.unusedSimpArgs false

/-- The number that the first k octets behind the second one spell. -/
def num (X : Nat → Int) : Nat → Int
  | 0 => 0
  | k + 1 => num X k * 256 + X (2 + k)

theorem num_bd {X : Nat → Int} (hB : ∀ i, 0 ≤ X i ∧ X i ≤ 255) : ∀ k, 0 ≤ num X k ∧ num X k < 256 ^ k
  | 0 => by simp [num]
  | k + 1 => by
    have h := num_bd hB k
    have hb := hB (2 + k)
    have e : (256 : Int) ^ (k + 1) = 256 ^ k * 256 := Int.pow_succ _ _
    rw [num, e]
    omega

theorem num_bd4 {X : Nat → Int} (hB : ∀ i, 0 ≤ X i ∧ X i ≤ 255) {k : Nat} (h : k ≤ 4) : 0 ≤ num X k ∧ num X k < 4294967296 := by
  have h1 := num_bd hB k
  have h2 : k = 0 ∨ k = 1 ∨ k = 2 ∨ k = 3 ∨ k = 4 := by omega
  rcases h2 with rfl | rfl | rfl | rfl | rfl <;> simp at h1 <;> omega

theorem num_bd3 {X : Nat → Int} (hB : ∀ i, 0 ≤ X i ∧ X i ≤ 255) {k : Nat} (h : k ≤ 3) : 0 ≤ num X k ∧ num X k < 16777216 := by
  have h1 := num_bd hB k
  have h2 : k = 0 ∨ k = 1 ∨ k = 2 ∨ k = 3 := by omega
  rcases h2 with rfl | rfl | rfl | rfl <;> simp at h1 <;> omega

/-- X's first n bytes open with one element tagged t: its contents begin at h and are l long. -/
def Good (X : Nat → Int) (n : Nat) (t : Int) (h l : Nat) : Prop :=
  2 ≤ n ∧ X 0 = t ∧ h + l ≤ n ∧ ((X 1 < 128 ∧ h = 2 ∧ (l : Int) = X 1) ∨ (∃ K : Nat, X 1 = 128 + (K : Int) ∧ 1 ≤ K ∧ K ≤ 4 ∧ 128 ≤ num X K ∧ X 2 ≠ 0 ∧ h = 2 + K ∧ (l : Int) = num X K))

theorem Good.one {X : Nat → Int} {n : Nat} {t : Int} {h l h' l' : Nat} (a : Good X n t h l) (b : Good X n t h' l') : h = h' ∧ l = l' := by
  obtain ⟨_, _, _, a⟩ := a
  obtain ⟨_, _, _, b⟩ := b
  rcases a with ⟨a1, rfl, a3⟩ | ⟨K, a1, a2, a3, a4, a5, rfl, a7⟩ <;> rcases b with ⟨b1, rfl, b3⟩ | ⟨K', b1, b2, b3, b4, b5, rfl, b7⟩
  · exact ⟨rfl, by omega⟩
  · omega
  · omega
  · obtain rfl : K = K' := by omega
    exact ⟨rfl, by omega⟩

theorem and128 : ∀ x : Fin 256, bits .and .u64 (x.val : Int) 128 = if x.val < 128 then 0 else 128 := by decide +kernel
theorem and127 : ∀ x : Fin 256, bits .and .u64 (x.val : Int) 127 = if x.val < 128 then (x.val : Int) else (x.val : Int) - 128 := by decide +kernel
theorem and128_lo {x : Int} (h0 : 0 ≤ x) (h1 : x < 128) : bits .and .u64 x 128 = 0 := by
  have := and128 ⟨x.toNat, by omega⟩
  rw [show (((⟨x.toNat, by omega⟩ : Fin 256)).val : Int) = x by simp; omega, if_pos (show x.toNat < 128 by omega)] at this
  exact this
theorem and128_hi {K : Nat} (h : K < 128) : bits .and .u64 (128 + (K : Int)) 128 = 128 := by
  have := and128 ⟨128 + K, by omega⟩
  rw [show (((⟨128 + K, by omega⟩ : Fin 256)).val : Int) = 128 + (K : Int) by simp, if_neg (show ¬ 128 + K < 128 by omega)] at this
  exact this
theorem and127_hi {K : Nat} (h : K < 128) : bits .and .u64 (128 + (K : Int)) 127 = (K : Int) := by
  have := and127 ⟨128 + K, by omega⟩
  rw [show (((⟨128 + K, by omega⟩ : Fin 256)).val : Int) = 128 + (K : Int) by simp, if_neg (show ¬ 128 + K < 128 by omega)] at this
  rw [this]; omega
theorem wrap_u64 {x : Int} (h0 : 0 ≤ x) (h1 : x < 18446744073709551616) : IntKind.u64.wrap x = x := by
  simp [IntKind.wrap, IntKind.signed, IntKind.bits]
  omega

/-- A shifted number or'ed with a byte is the number times 256 and the byte. -/
theorem or_byte {v b : Int} (h0 : 0 ≤ v) (h1 : v < 4294967296) (h2 : 0 ≤ b) (h3 : b ≤ 255) : bits .or .u64 (v * 256) b = v * 256 + b := by
  obtain ⟨a, rfl⟩ : ∃ a : Nat, v = a := ⟨v.toNat, by omega⟩
  obtain ⟨c, rfl⟩ : ∃ c : Nat, b = c := ⟨b.toNat, by omega⟩
  have e1 : ((a : Int) * 256) = ((a * 256 : Nat) : Int) := by omega
  have hl : a * 256 ||| c = a * 256 + c := by
    have := Nat.shiftLeft_add_eq_or_of_lt (i := 8) (b := c) (by omega) a
    rw [Nat.shiftLeft_eq] at this
    exact this.symm
  unfold bits
  rw [e1]
  simp only [BitVec.ofInt_natCast, BitVec.toNat_or, BitVec.toNat_ofNat]
  rw [Nat.mod_eq_of_lt (show a * 256 < 2 ^ IntKind.u64.bits by simp [IntKind.bits]; omega), Nat.mod_eq_of_lt (show c < 2 ^ IntKind.u64.bits by simp [IntKind.bits]; omega), hl, wrap_u64 (by omega) (by omega)]
  omega
end Go.Proofs.YbulkegsiFmt
