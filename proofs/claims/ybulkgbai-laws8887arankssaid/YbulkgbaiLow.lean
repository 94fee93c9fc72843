import Derived.Test.YbulkgbaiFen
import Derived.Laws.BitsLemmas
namespace Go.Zz.Fen

theorem and_compl (k h : Nat) (hh : h < 2 ^ k) : h &&& (2 ^ k - (h + 1)) = 0 := by
  apply Nat.eq_of_testBit_eq
  intro i
  rw [Nat.testBit_and, Nat.testBit_two_pow_sub_succ hh]
  cases Nat.testBit h i <;> simp

theorem and_parts (a b : Nat) : a &&& b = 2 * (a / 2 &&& b / 2) + (a % 2 &&& b % 2) := by
  have h1 := Nat.div_add_mod (a &&& b) 2
  have h2 : (a &&& b) / 2 = a / 2 &&& b / 2 := by
    have := @Nat.and_div_two_pow a b 1
    simpa using this
  have h3 : (a &&& b) % 2 = a % 2 &&& b % 2 := by
    have := @Nat.and_mod_two_pow a b 1
    simpa using this
  rw [h2, h3] at h1
  exact h1.symm

theorem and_neg (k : Nat) : ∀ i, 0 < i → i < 2 ^ k → i &&& (2 ^ k - i) = low i := by
  induction k with
  | zero => intro i h0 h1; simp at h1; omega
  | succ k ih =>
    intro i h0 h1
    rw [Nat.pow_succ] at h1 ⊢
    rw [and_parts]
    by_cases ho : i % 2 = 1
    · obtain ⟨h, rfl⟩ : ∃ h, i = 2 * h + 1 := ⟨i / 2, by omega⟩
      rw [low_odd]
      rw [show (2 * h + 1) / 2 = h by omega, show (2 ^ k * 2 - (2 * h + 1)) / 2 = 2 ^ k - (h + 1) by omega, and_compl k h (by omega)]
      rw [ho, show (2 ^ k * 2 - (2 * h + 1)) % 2 = 1 by omega]
      rfl
    · obtain ⟨h, rfl⟩ : ∃ h, i = 2 * h := ⟨i / 2, by omega⟩
      rw [low_two h (by omega)]
      rw [show (2 * h) / 2 = h by omega, show (2 ^ k * 2 - 2 * h) / 2 = 2 ^ k - h by omega, ih h (by omega) (by omega)]
      rw [show (2 * h) % 2 = 0 by omega]
      simp

theorem bits_low (i : Nat) (h0 : 0 < i) (h1 : i ≤ 4611686018427387904) : bits .and .i64 (i : Int) (-(i : Int)) = (low i : Int) := by
  have hl := low_le i h0
  have e : (BitVec.ofInt 64 (i : Int) &&& BitVec.ofInt 64 (-(i : Int))).toNat = low i := by
    rw [BitVec.ofInt_neg, BitVec.toNat_and, BitVec.ofInt_natCast, BitVec.toNat_neg, BitVec.toNat_ofNat]
    rw [Nat.mod_eq_of_lt (show i < 2 ^ 64 by omega), Nat.mod_eq_of_lt (show 2 ^ 64 - i < 2 ^ 64 by omega)]
    exact and_neg 64 i h0 (by omega)
  show IntKind.i64.wrap ((BitVec.ofInt 64 (i : Int) &&& BitVec.ofInt 64 (-(i : Int))).toNat : Int) = _
  rw [e, IntKind.wrap_i64]
  omega

end Go.Zz.Fen
