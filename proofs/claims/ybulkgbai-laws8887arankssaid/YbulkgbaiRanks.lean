import Derived.Test.YbulkgbaiFen
import Derived.Lib.BitFns
namespace Go.Zz.Fen

/-- how many of the first i places are members -/
def cnt (M : Nat → Bool) : Nat → Nat
  | 0 => 0
  | i + 1 => cnt M i + (if M i = true then 1 else 0)

/-- what sum j counts: the members among the low(j) places that end with place j - 1 -/
def sumF (M : Nat → Bool) (j : Nat) : Int := (cnt M j : Int) - (cnt M (j - low j) : Int)

def turn (M : Nat → Bool) (p : Nat) (b : Bool) : Nat → Bool := fun i => if i = p then b else M i

theorem cnt_le (M : Nat → Bool) (i : Nat) : cnt M i ≤ i := by
  induction i with
  | zero => exact Nat.le_refl _
  | succ i ih => simp only [cnt]; split <;> omega

theorem cnt_mono (M : Nat → Bool) {a b : Nat} (h : a ≤ b) : cnt M a ≤ cnt M b := by
  induction b with
  | zero => have : a = 0 := by omega
            subst this; exact Nat.le_refl _
  | succ b ih =>
    by_cases e : a = b + 1
    · subst e; exact Nat.le_refl _
    · have := ih (by omega)
      simp only [cnt]
      omega

theorem cnt_none (i : Nat) : cnt (fun _ => false) i = 0 := by
  induction i with
  | zero => rfl
  | succ i ih => simp [cnt, ih]

theorem sum_none (j : Nat) : sumF (fun _ => false) j = 0 := by simp [sumF, cnt_none]

theorem cnt_congr (M N : Nat → Bool) (i : Nat) (h : ∀ j, j < i → M j = N j) : cnt M i = cnt N i := by
  induction i with
  | zero => rfl
  | succ i ih =>
    simp only [cnt]
    rw [ih (fun j hj => h j (by omega)), h i (by omega)]

theorem sum_congr (M N : Nat → Bool) (i : Nat) (h : ∀ j, j < i → M j = N j) : sumF M i = sumF N i := by
  unfold sumF
  rw [cnt_congr M N i h, cnt_congr M N (i - low i) (fun j hj => h j (by omega))]

theorem sum_bounds (M : Nat → Bool) (j : Nat) : 0 ≤ sumF M j ∧ sumF M j ≤ j := by
  have h1 := cnt_mono M (show j - low j ≤ j by omega)
  have h2 := cnt_le M j
  unfold sumF
  omega

theorem cnt_add (M : Nat → Bool) (p : Nat) (hp : M p = false) (i : Nat) : cnt (turn M p true) i = cnt M i + (if p < i then 1 else 0) := by
  induction i with
  | zero => simp [cnt]
  | succ i ih =>
    simp only [cnt, ih]
    by_cases e : i = p
    · subst e
      simp [turn, hp]
    · have e1 : turn M p true i = M i := by simp [turn, e]
      rw [e1]
      by_cases h : p < i
      · rw [if_pos h, if_pos (show p < i + 1 by omega)]; omega
      · rw [if_neg h, if_neg (show ¬ p < i + 1 by omega)]; omega

theorem sum_add (M : Nat → Bool) (p : Nat) (hp : M p = false) (j : Nat) : sumF (turn M p true) j = if hit p j = true then sumF M j + 1 else sumF M j := by
  unfold sumF
  rw [cnt_add M p hp, cnt_add M p hp]
  by_cases h : hit p j = true
  · have ⟨h0, h1, h2⟩ := of_decide_eq_true h
    rw [if_pos h, if_pos h2, if_neg (show ¬ p < j - low j by omega)]
    omega
  · have h' : hit p j = false := by simpa using h
    have h3 := of_decide_eq_false h'
    rw [if_neg h]
    by_cases h2 : p < j
    · have h4 : p < j - low j := by
        rcases Nat.lt_or_ge p (j - low j) with hl | hl
        · exact hl
        · exact absurd ⟨by omega, hl, h2⟩ h3
      rw [if_pos h2, if_pos h4]
      omega
    · rw [if_neg h2, if_neg (show ¬ p < j - low j by omega)]
      omega

theorem turn_turn (M : Nat → Bool) (p : Nat) (hp : M p = true) : turn (turn M p false) p true = M := by
  funext i
  by_cases e : i = p
  · subst e; simp [turn, hp]
  · simp [turn, e]

theorem turn_at (M : Nat → Bool) (p : Nat) (b : Bool) : turn M p b p = b := by simp [turn]

theorem sum_sub (M : Nat → Bool) (p : Nat) (hp : M p = true) (j : Nat) : sumF (turn M p false) j = if hit p j = true then sumF M j + -1 else sumF M j := by
  have h := sum_add (turn M p false) p (turn_at M p false) j
  rw [turn_turn M p hp] at h
  by_cases hh : hit p j = true
  · rw [if_pos hh] at h ⊢; omega
  · rw [if_neg hh] at h ⊢; omega

theorem cnt_sub (M : Nat → Bool) (p : Nat) (hp : M p = true) (i : Nat) : cnt M i = cnt (turn M p false) i + (if p < i then 1 else 0) := by
  have h := cnt_add (turn M p false) p (turn_at M p false) i
  rwa [turn_turn M p hp] at h

/-! ### the descent of 'at' -/

/-- a number i that a power of two 2^(a+1) divides, and the next one a step of 2^a on -/
theorem low_step (a m : Nat) : low (2 ^ (a + 1) * m + 2 ^ a) = 2 ^ a := by
  have e : 2 ^ (a + 1) * m + 2 ^ a = 2 ^ a * (2 * m + 1) := by
    rw [Nat.pow_succ, Nat.mul_add, Nat.mul_one, Nat.mul_assoc]
  rw [e, low_split]

theorem sum_step (M : Nat → Bool) (a m : Nat) : sumF M (2 ^ (a + 1) * m + 2 ^ a) = (cnt M (2 ^ (a + 1) * m + 2 ^ a) : Int) - (cnt M (2 ^ (a + 1) * m) : Int) := by
  unfold sumF
  rw [low_step, Nat.add_sub_cancel]

/-- the member of rank cnt M t is t: where the count stands against t's -/
theorem cnt_le_iff (M : Nat → Bool) (t i : Nat) (ht : M t = true) : cnt M i ≤ cnt M t ↔ i ≤ t := by
  constructor
  · intro h
    rcases Nat.lt_or_ge t i with hl | hl
    · have h1 := cnt_mono M (show t + 1 ≤ i by omega)
      have h2 : cnt M (t + 1) = cnt M t + 1 := by simp [cnt, ht]
      omega
    · exact hl
  · intro h; exact cnt_mono M h

theorem bitLen_bounds (n : Nat) (h0 : 0 < n) (h : n < 2 ^ 64) : 0 < Lib.bitLen n ∧ 2 ^ (Lib.bitLen n - 1) ≤ n ∧ n < 2 ^ Lib.bitLen n := by
  induction n using Nat.strongRecOn with
  | ind n ih =>
    rw [Lib.bitLen_half n (by omega) h]
    by_cases h1 : n = 1
    · subst h1; decide
    · obtain ⟨i1, i2, i3⟩ := ih (n / 2) (by omega) (by omega) (by omega)
      generalize Lib.bitLen (n / 2) = b at *
      obtain ⟨c, rfl⟩ : ∃ c, b = c + 1 := ⟨b - 1, by omega⟩
      rw [Nat.add_sub_cancel] at i2
      refine ⟨by omega, ?_, ?_⟩
      · rw [show 1 + (c + 1) - 1 = c + 1 by omega, Nat.pow_succ]; omega
      · rw [show 1 + (c + 1) = c + 1 + 1 by omega, Nat.pow_succ]; omega

end Go.Zz.Fen
