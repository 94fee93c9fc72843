namespace Go.Zz.Fen

/-- the lowest set bit of n (1 at an odd number; low 0 = 0), by halving; the first number is fuel -/
def lowF : Nat → Nat → Nat
  | 0, _ => 0
  | f + 1, n => if n = 0 then 0 else if n % 2 = 1 then 1 else 2 * lowF f (n / 2)

def low (n : Nat) : Nat := lowF n n

theorem lowF_mono (f : Nat) : ∀ (n g : Nat), n ≤ f → n ≤ g → lowF f n = lowF g n := by
  induction f with
  | zero =>
    intro n g hn _
    have : n = 0 := by omega
    subst this
    cases g <;> simp [lowF]
  | succ f ih =>
    intro n g hn hg
    cases g with
    | zero =>
      have : n = 0 := by omega
      subst this
      simp [lowF]
    | succ g =>
      simp only [lowF]
      by_cases h0 : n = 0
      · simp [h0]
      · simp only [if_neg h0]
        by_cases h1 : n % 2 = 1
        · simp [h1]
        · simp only [if_neg h1]
          rw [ih (n / 2) g (by omega) (by omega)]

theorem low_odd (m : Nat) : low (2 * m + 1) = 1 := by
  unfold low
  simp only [lowF]
  rw [if_neg (by omega), if_pos (by omega)]

theorem low_two (n : Nat) (h : 0 < n) : low (2 * n) = 2 * low n := by
  obtain ⟨k, rfl⟩ : ∃ k, n = k + 1 := ⟨n - 1, by omega⟩
  unfold low
  rw [show lowF (2 * (k + 1)) (2 * (k + 1)) = lowF (2 * k + 1 + 1) (2 * (k + 1)) from by rw [show 2 * (k + 1) = 2 * k + 1 + 1 by omega]]
  rw [show lowF (2 * k + 1 + 1) (2 * (k + 1)) = 2 * lowF (2 * k + 1) (2 * (k + 1) / 2) from by
    simp only [lowF]
    rw [if_neg (by omega), if_neg (by omega)]]
  rw [show 2 * (k + 1) / 2 = k + 1 by omega, lowF_mono (2 * k + 1) (k + 1) (k + 1) (by omega) (by omega)]

/-- every number from 1 on is a power of two times an odd one -/
theorem split (n : Nat) (h : 0 < n) : ∃ a m, n = 2 ^ a * (2 * m + 1) := by
  induction n using Nat.strongRecOn with
  | ind n ih =>
    by_cases h1 : n % 2 = 1
    · exact ⟨0, n / 2, by simp; omega⟩
    · obtain ⟨a, m, e⟩ := ih (n / 2) (by omega) (by omega)
      refine ⟨a + 1, m, ?_⟩
      rw [Nat.pow_succ, Nat.mul_comm (2 ^ a) 2, Nat.mul_assoc, ← e]
      omega

theorem low_pow (a n : Nat) (h : 0 < n) : low (2 ^ a * n) = 2 ^ a * low n := by
  induction a with
  | zero => simp
  | succ a ih =>
    rw [Nat.pow_succ, Nat.mul_comm (2 ^ a) 2, Nat.mul_assoc, low_two _ (Nat.mul_pos (Nat.two_pow_pos a) h), ih, Nat.mul_assoc]

theorem low_split (a m : Nat) : low (2 ^ a * (2 * m + 1)) = 2 ^ a := by
  rw [low_pow a _ (by omega), low_odd, Nat.mul_one]

theorem low_pos (n : Nat) (h : 0 < n) : 0 < low n := by
  obtain ⟨a, m, rfl⟩ := split n h
  rw [low_split]
  exact Nat.two_pow_pos a

theorem low_le (n : Nat) (h : 0 < n) : low n ≤ n := by
  obtain ⟨a, m, rfl⟩ := split n h
  rw [low_split]
  exact Nat.le_mul_of_pos_right _ (by omega)

/-- a step of the road: the next number's lowest bit is at least twice as great -/
theorem low_next (n : Nat) (h : 0 < n) : 2 * low n ≤ low (n + low n) := by
  obtain ⟨a, m, rfl⟩ := split n h
  rw [low_split, show 2 ^ a * (2 * m + 1) + 2 ^ a = 2 ^ (a + 1) * (m + 1) by rw [← Nat.mul_succ, Nat.pow_succ, Nat.mul_assoc]; rfl]
  rw [low_pow _ _ (by omega), Nat.pow_succ]
  have := low_pos (m + 1) (by omega)
  have h1 : 2 ^ a * 2 * 1 ≤ 2 ^ a * 2 * low (m + 1) := Nat.mul_le_mul_left _ this
  omega

theorem low_two_le (k : Nat) (r : Nat) (h : 0 < r) (hr : r < 2 ^ k) : ∃ a b, r = 2 ^ a * (2 * b + 1) ∧ a < k := by
  obtain ⟨a, b, e⟩ := split r h
  refine ⟨a, b, e, ?_⟩
  rcases Nat.lt_or_ge a k with hl | hl
  · exact hl
  · have h1 : 2 ^ k ≤ 2 ^ a := Nat.pow_le_pow_right (by omega) hl
    have h2 : 2 ^ a * 1 ≤ 2 ^ a * (2 * b + 1) := Nat.mul_le_mul_left _ (by omega)
    omega

/-- between a number and the next of its road no lowest bit reaches back over it -/
theorem low_between (n r : Nat) (h : 0 < n) (h0 : 0 < r) (hr : r < low n) : low (n + r) ≤ r := by
  obtain ⟨k, m, rfl⟩ := split n h
  rw [low_split] at hr
  obtain ⟨a, b, rfl, hak⟩ := low_two_le k r h0 hr
  obtain ⟨d, rfl⟩ : ∃ d, k = a + (d + 1) := ⟨k - a - 1, by omega⟩
  have e : 2 ^ (a + (d + 1)) * (2 * m + 1) + 2 ^ a * (2 * b + 1) = 2 ^ a * (2 * (2 ^ d * (2 * m + 1) + b) + 1) := by
    rw [Nat.pow_add, Nat.pow_succ, Nat.mul_assoc, ← Nat.mul_add]
    congr 1
    rw [Nat.mul_comm (2 ^ d) 2, Nat.mul_assoc]
    omega
  rw [e, low_split]
  exact Nat.le_mul_of_pos_right _ (by omega)

/-- does place p lie in the range that sum j counts? -/
def hit (p j : Nat) : Bool := decide (0 < j ∧ j - low j ≤ p ∧ p < j)

theorem hit_start (p : Nat) : hit p (p + 1) = true := by
  have := low_pos (p + 1) (by omega)
  have h2 := low_le (p + 1) (by omega)
  exact decide_eq_true (by omega)

theorem hit_before (p j : Nat) (h : j < p + 1) : hit p j = false := decide_eq_false (by omega)

theorem hit_next (p i : Nat) (h : hit p i = true) : hit p (i + low i) = true := by
  have ⟨h0, h1, h2⟩ := of_decide_eq_true h
  have h3 := low_next i h0
  have h4 := low_pos i h0
  exact decide_eq_true (by omega)

theorem hit_between (p i j : Nat) (h : hit p i = true) (h1 : i < j) (h2 : j < i + low i) : hit p j = false := by
  have ⟨h0, h3, h4⟩ := of_decide_eq_true h
  have h5 := low_between i (j - i) h0 (by omega) (by omega)
  rw [show i + (j - i) = j by omega] at h5
  exact decide_eq_false (by omega)

/-- what doubling finds -/
theorem double_stop (j a m : Nat) (hj : j = 2 ^ a * m) (hm : 0 < m) (hs : ¬ j % (2 * 2 ^ a) = 0) : low j = 2 ^ a := by
  subst hj
  have : m % 2 = 1 := by
    rcases Nat.mod_two_eq_zero_or_one m with h | h
    · exfalso
      apply hs
      obtain ⟨q, rfl⟩ : ∃ q, m = 2 * q := ⟨m / 2, by omega⟩
      rw [Nat.mul_comm 2 (2 ^ a), ← Nat.mul_assoc]
      exact Nat.mul_mod_right _ _
    · exact h
  obtain ⟨q, rfl⟩ : ∃ q, m = 2 * q + 1 := ⟨m / 2, by omega⟩
  exact low_split a q

theorem double_go (j a m : Nat) (hj : j = 2 ^ a * m) (hs : j % (2 * 2 ^ a) = 0) : ∃ q, j = 2 ^ (a + 1) * q ∧ m = 2 * q := by
  subst hj
  have : m % 2 = 0 := by
    rw [Nat.mul_comm 2 (2 ^ a), Nat.mul_mod_mul_left] at hs
    rcases Nat.mul_eq_zero.1 hs with h | h
    · have := Nat.two_pow_pos a; omega
    · exact h
  refine ⟨m / 2, ?_, by omega⟩
  rw [Nat.pow_succ, Nat.mul_assoc]
  congr 1
  omega

end Go.Zz.Fen
