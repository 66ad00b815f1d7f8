import Derived.Test.Qxb6614219aRing
import Derived.Test.Qxb6614219aPlain
namespace Go.Proofs.Qxb6614219a
set_option linter.unusedVariables false

theorem ok_of_below {m b D : Nat} (hb : 1 ≤ b) (h : D < 2 ^ m) (hlt : D < 2 ^ (m - m / b * b)) : D = 0 ∨ m / b < lev m b D := by
  by_cases h0 : D = 0
  · exact .inl h0
  · refine .inr (Nat.lt_of_not_le fun hle => ?_)
    have h1 := (digit_at hb h0 h hle).1
    have h2 : D < 2 ^ (m - lev m b D * b) := Nat.lt_of_lt_of_le hlt (Nat.pow_le_pow_right (by decide) (by have := Nat.mul_le_mul_right b hle; omega))
    rw [Nat.div_eq_of_lt h2] at h1
    omega
theorem ok_of_above {m b D : Nat} (hb : 1 ≤ b) (h : D < 2 ^ m) (hge : ¬ D < 2 ^ (m - m / b * b)) : D ≠ 0 ∧ lev m b D ≤ m / b := by
  have h0 : D ≠ 0 := by intro e; rw [e] at hge; exact hge (Nat.two_pow_pos _)
  refine ⟨h0, Nat.le_of_not_lt fun hlt => hge (lev_mul hb h0 h hlt)⟩
/-- The level is known by its digit. -/
theorem lev_unique {m b D l : Nat} (hb : 1 ≤ b) (h : D < 2 ^ m) (h1 : 1 ≤ l) (hl : l ≤ m / b) (hpos : 0 < D / 2 ^ (m - l * b)) (hlt : D / 2 ^ (m - l * b) < 2 ^ b) : lev m b D = l := by
  have h0 : D ≠ 0 := by intro e; rw [e] at hpos; simp at hpos
  have hlm : l * b ≤ m := Nat.le_trans (Nat.mul_le_mul_right b hl) (Nat.div_mul_le_self m b)
  by_cases a : l < lev m b D
  · have := lev_mul hb h0 h a
    rw [Nat.div_eq_of_lt this] at hpos; omega
  · by_cases c : lev m b D < l
    · have e := (digit_at hb h0 h (by omega)).1
      have h2 : D < 2 ^ (m - l * b) * 2 ^ b := by
        have := (Nat.div_lt_iff_lt_mul (Nat.two_pow_pos _)).1 hlt
        rw [Nat.mul_comm]; exact this
      rw [← Nat.pow_add] at h2
      have h3 : (lev m b D + 1) * b ≤ l * b := Nat.mul_le_mul_right b (by omega)
      rw [Nat.add_mul, Nat.one_mul] at h3
      have h4 : D < 2 ^ (m - lev m b D * b) := Nat.lt_of_lt_of_le h2 (Nat.pow_le_pow_right (by decide) (by omega))
      rw [Nat.div_eq_of_lt h4] at e; omega
    · omega

theorem pow_160 : (2 : Nat) ^ 160 = 1461501637330902918203684832716283019655932542976 := by decide
/-- self + Y, as the law builds it, lies Y clockwise of self. -/
theorem start_dist (u S Y : Nat) (hY : Y < 2 ^ (160 - u)) : ringN u (subN S (subN 0 Y)) S = Y := by
  have h1 : Y < 2 ^ 160 := Nat.lt_of_lt_of_le hY (Nat.pow_le_pow_right (by decide) (by omega))
  rw [pow_160] at h1
  have e : subN (subN S (subN 0 Y)) S = Y := by unfold subN; omega
  unfold ringN
  rw [e, Nat.mod_eq_of_lt hY]
/-- and the target lies (D - Y) clockwise of it. -/
theorem rest_dist (u T S Y : Nat) (hY : Y ≤ ringN u T S) : ringN u T (subN S (subN 0 Y)) = ringN u T S - Y := by
  have hle : ringN u T S ≤ subN T S := Nat.mod_le _ _
  have hlt : subN T S < 1461501637330902918203684832716283019655932542976 := Nat.mod_lt _ (by decide)
  have e : subN T (subN S (subN 0 Y)) = subN T S - Y := by
    have hY2 : Y ≤ subN T S := Nat.le_trans hY hle
    unfold subN at *; omega
  unfold ringN at hY ⊢
  rw [e]
  generalize subN T S = X at hY hlt
  have hd := Nat.mod_add_div X (2 ^ (160 - u))
  have hm : X % 2 ^ (160 - u) < 2 ^ (160 - u) := Nat.mod_lt _ (Nat.two_pow_pos _)
  have e2 : X - Y = (X % 2 ^ (160 - u) - Y) + 2 ^ (160 - u) * (X / 2 ^ (160 - u)) := by omega
  rw [e2, Nat.add_mul_mod_self_left]
  exact Nat.mod_eq_of_lt (by omega)

/-- All that the law asks of the plain numbers, where hop accepts. -/
theorem interval {u b S T : Nat} (hb : 1 ≤ b) (h0 : ringN u T S ≠ 0) (hle : lev (160 - u) b (ringN u T S) ≤ (160 - u) / b) :
    let m := 160 - u
    let D := ringN u T S
    let l := lev m b D
    let sh := m - l * b
    let V := D / 2 ^ sh
    let st := subN S (subN 0 (V * 2 ^ sh))
    0 < V ∧ V < 2 ^ b ∧ V * 2 ^ sh < 2 ^ 160 ∧ ringN u T st < 2 ^ sh ∧ hopOk m b (ringN u st S) = true ∧ hopI m b (ringN u st S) = (l - 1) * 2 ^ b + V := by
  intro m D l sh V st
  have hD : D < 2 ^ m := Nat.mod_lt _ (Nat.two_pow_pos _)
  obtain ⟨hp, hlt⟩ := digit_at hb h0 hD hle
  have hVD : V * 2 ^ sh ≤ D := Nat.div_mul_le_self D (2 ^ sh)
  have hVm : V * 2 ^ sh < 2 ^ m := Nat.lt_of_le_of_lt hVD hD
  have hV160 : V * 2 ^ sh < 2 ^ 160 := Nat.lt_of_lt_of_le hVm (Nat.pow_le_pow_right (by decide) (by omega))
  have e1 : ringN u st S = V * 2 ^ sh := start_dist u S _ hVm
  have e2 : ringN u T st = D - V * 2 ^ sh := rest_dist u T S _ hVD
  have e3 : D - V * 2 ^ sh = D % 2 ^ sh := by
    have := Nat.mod_add_div D (2 ^ sh)
    have c : 2 ^ sh * (D / 2 ^ sh) = V * 2 ^ sh := Nat.mul_comm _ _
    omega
  have e4 : V * 2 ^ sh / 2 ^ sh = V := Nat.mul_div_cancel _ (Nat.two_pow_pos sh)
  have e5 : lev m b (V * 2 ^ sh) = l := lev_unique hb hVm (lev_pos _ _ _) hle (by show 0 < V * 2 ^ sh / 2 ^ sh; rw [e4]; exact hp) (by show V * 2 ^ sh / 2 ^ sh < 2 ^ b; rw [e4]; exact hlt)
  have h0' : V * 2 ^ sh ≠ 0 := by
    have := Nat.two_pow_pos sh
    have hp' : 0 < V := hp
    exact Nat.ne_of_gt (Nat.mul_pos hp' this)
  have ok : hopOk m b (V * 2 ^ sh) = true := by unfold hopOk; rw [e5]; simp [h0']; exact hle
  refine ⟨hp, hlt, hV160, ?_, ?_, ?_⟩
  · rw [e2, e3]; exact Nat.mod_lt _ (Nat.two_pow_pos sh)
  · rw [e1]; exact ok
  · rw [e1]; unfold hopI; rw [ok, e5]
    show (if True then (l - 1) * 2 ^ b + V * 2 ^ sh / 2 ^ sh else 0) = _
    rw [e4]; simp
end Go.Proofs.Qxb6614219a
