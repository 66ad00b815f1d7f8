/-
  Plain arithmetic for the hop laws: no Go in sight.
-/
namespace Go.Proofs.Qxb6614219a

/-- The level whose digit holds D's highest set bit. -/
def lev (m b D : Nat) : Nat := (m - 1 - D.log2) / b + 1
/-- hop's answer at the distance D on a ring of m bits with 2^b ways. -/
def hopOk (m b D : Nat) : Bool := decide (D ≠ 0 ∧ lev m b D ≤ m / b)
def hopI (m b D : Nat) : Nat := if hopOk m b D = true then (lev m b D - 1) * 2 ^ b + D / 2 ^ (m - lev m b D * b) else 0

theorem log2_lt_m {m D : Nat} (h0 : D ≠ 0) (h : D < 2 ^ m) : D.log2 + 1 ≤ m := (Nat.log2_lt h0).2 h

theorem lev_pos (m b D : Nat) : 1 ≤ lev m b D := Nat.le_add_left _ _
theorem lev_mul {m b D l : Nat} (hb : 1 ≤ b) (h0 : D ≠ 0) (h : D < 2 ^ m) (hl : l < lev m b D) : D < 2 ^ (m - l * b) := by
  have hp := log2_lt_m h0 h
  have h1 : l ≤ (m - 1 - D.log2) / b := by unfold lev at hl; omega
  have h2 : l * b ≤ m - 1 - D.log2 := (Nat.le_div_iff_mul_le hb).1 h1
  exact (Nat.log2_lt h0).1 (by omega)
/-- Below the level: the digit is 0. -/
theorem digit_below {m b D l : Nat} (hb : 1 ≤ b) (h : D < 2 ^ m) (hl : D = 0 ∨ l < lev m b D) : D / 2 ^ (m - l * b) % 2 ^ b = 0 := by
  by_cases h0 : D = 0
  · subst h0; simp
  · rw [Nat.div_eq_of_lt (lev_mul hb h0 h (by omega))]; simp
/-- At the level. -/
theorem digit_at {m b D : Nat} (hb : 1 ≤ b) (h0 : D ≠ 0) (h : D < 2 ^ m) (hl : lev m b D ≤ m / b) :
    0 < D / 2 ^ (m - lev m b D * b) ∧ D / 2 ^ (m - lev m b D * b) < 2 ^ b := by
  have hp := log2_lt_m h0 h
  have hlb : lev m b D * b ≤ m := Nat.le_trans (Nat.mul_le_mul_right b hl) (Nat.div_mul_le_self m b)
  have h1 : m - 1 - D.log2 < lev m b D * b := by
    unfold lev
    have := Nat.lt_div_mul_add (a := m - 1 - D.log2) hb
    rw [Nat.add_mul, Nat.one_mul]; exact this
  have hpos := lev_pos m b D
  have h2 : D < 2 ^ (m - (lev m b D - 1) * b) := lev_mul hb h0 h (by omega)
  have h3 : m - (lev m b D - 1) * b = (m - lev m b D * b) + b := by
    have e : lev m b D * b = (lev m b D - 1) * b + b := by
      have : lev m b D = (lev m b D - 1) + 1 := by omega
      conv => lhs; rw [this, Nat.add_mul, Nat.one_mul]
    omega
  rw [h3, Nat.pow_add] at h2
  refine ⟨Nat.div_pos ?_ (Nat.two_pow_pos _), (Nat.div_lt_iff_lt_mul (Nat.two_pow_pos _)).2 (by rw [Nat.mul_comm]; exact h2)⟩
  exact Nat.le_trans (Nat.pow_le_pow_right (by decide) (by omega : m - lev m b D * b ≤ D.log2)) ((Nat.le_log2 h0).1 (Nat.le_refl _))
theorem digit_at_mod {m b D : Nat} (hb : 1 ≤ b) (h0 : D ≠ 0) (h : D < 2 ^ m) (hl : lev m b D ≤ m / b) : D / 2 ^ (m - lev m b D * b) % 2 ^ b = D / 2 ^ (m - lev m b D * b) :=
  Nat.mod_eq_of_lt (digit_at hb h0 h hl).2
end Go.Proofs.Qxb6614219a
