import Derived.Test.Qxb6614371aOrder
namespace Go.Proofs.Qxb6614371a
set_option linter.unusedVariables false

/-! ### The plain law of the merge -/
/-- The positions that the first k places of 'o' hold are the first gi of g and the first wi of w. -/
def Done (o : Nat → Nat) (n ng k gi wi : Nat) : Prop := ∀ p, p < n → ((p < gi ∨ (ng ≤ p ∧ p < ng + wi)) ↔ ∃ j, j < k ∧ o j = p)

theorem strict {key : Nat → Int} {n : Nat} {o : Nat → Nat} (hO : Ord key n o) (hD : ∀ k, k + 1 < n → key (o k) ≠ key (o (k + 1))) : ∀ a b, a < b → b < n → key (o a) < key (o b) := by
  intro a b hab hb
  induction b with
  | zero => omega
  | succ b ih =>
    have h1 := hO.sorted b hb
    have h2 := hD b hb
    by_cases e : a = b
    · subst e; omega
    · have := ih (by omega) (by omega); omega

theorem rising {n : Nat} {f : Nat → Int} (h : ∀ i, i + 1 < n → f i < f (i + 1)) : ∀ a b, a ≤ b → b < n → f a ≤ f b := by
  intro a b hab hb
  induction b with
  | zero => have : a = 0 := by omega
            subst this; exact Int.le_refl _
  | succ b ih =>
    by_cases e : a = b + 1
    · subst e; exact Int.le_refl _
    · have := ih (by omega) (by omega); have := h b hb; omega

theorem keyF_lo {ng : Nat} {fg fw : Nat → Int} {i : Nat} (h : i < ng) : keyF ng fg fw i = fg i := by unfold keyF; rw [if_pos h]
theorem keyF_hi {ng : Nat} {fg fw : Nat → Int} (i : Nat) : keyF ng fg fw (ng + i) = fw i := by unfold keyF; rw [if_neg (by omega)]; congr 1; omega

theorem pick {key : Nat → Int} {n : Nat} {o : Nat → Nat} (hO : Ord key n o) (hS : ∀ a b, a < b → b < n → key (o a) < key (o b)) {ng k gi wi p : Nat} (hd : Done o n ng k gi wi) (hk : k < n) (hp : p < n)
    (hnd : ¬ (p < gi ∨ (ng ≤ p ∧ p < ng + wi))) (hmin : ∀ p', p' < n → ¬ (p' < gi ∨ (ng ≤ p' ∧ p' < ng + wi)) → key p ≤ key p') : o k = p := by
  obtain ⟨m, hm, hmp⟩ := hO.onto p hp
  have h1 : ¬ m < k := fun h => hnd ((hd p hp).2 ⟨m, h, hmp⟩)
  by_cases e : m = k
  · subst e; exact hmp
  · have h2 := hS k m (by omega) hm
    have h3 : ¬ (o k < gi ∨ (ng ≤ o k ∧ o k < ng + wi)) := by
      intro h
      obtain ⟨j, hj, hjk⟩ := (hd (o k) (hO.lt k hk)).1 h
      have := hS j k hj hk
      rw [hjk] at this
      omega
    have h4 := hmin (o k) (hO.lt k hk) h3
    rw [hmp] at h2
    omega

section
variable {ng nw : Nat} {fg fw : Nat → Int} {o : Nat → Nat}

theorem pick_g (hO : Ord (keyF ng fg fw) (ng + nw) o) (hD : ∀ k, k + 1 < ng + nw → keyF ng fg fw (o k) ≠ keyF ng fg fw (o (k + 1))) (ag : ∀ i, i + 1 < ng → fg i < fg (i + 1)) (aw : ∀ i, i + 1 < nw → fw i < fw (i + 1))
    {k gi wi : Nat} (hd : Done o (ng + nw) ng k gi wi) (hk : k < ng + nw) (hgi : gi < ng) (hwi : wi ≤ nw) (hle : wi < nw → ¬ fw wi < fg gi) : o k = gi ∧ Done o (ng + nw) ng (k + 1) (gi + 1) wi := by
  have e : o k = gi := by
    refine pick hO (strict hO hD) hd hk (by omega) (by omega) ?_
    intro p' hp' hn'
    rw [keyF_lo hgi]
    by_cases h : p' < ng
    · rw [keyF_lo h]; exact rising ag gi p' (by omega) h
    · obtain ⟨j, rfl⟩ : ∃ j, p' = ng + j := ⟨p' - ng, by omega⟩
      rw [keyF_hi]
      have h1 := rising aw wi j (by omega) (by omega)
      have h2 := hle (by omega)
      omega
  refine ⟨e, ?_⟩
  intro p hp
  constructor
  · intro h
    by_cases h1 : p = gi
    · exact ⟨k, by omega, by rw [h1]; exact e⟩
    · obtain ⟨j, hj, hjp⟩ := (hd p hp).1 (by omega)
      exact ⟨j, by omega, hjp⟩
  · rintro ⟨j, hj, hjp⟩
    by_cases h1 : j = k
    · subst h1; rw [e] at hjp; omega
    · have := (hd p hp).2 ⟨j, by omega, hjp⟩; omega

theorem pick_w (hO : Ord (keyF ng fg fw) (ng + nw) o) (hD : ∀ k, k + 1 < ng + nw → keyF ng fg fw (o k) ≠ keyF ng fg fw (o (k + 1))) (ag : ∀ i, i + 1 < ng → fg i < fg (i + 1)) (aw : ∀ i, i + 1 < nw → fw i < fw (i + 1))
    {k gi wi : Nat} (hd : Done o (ng + nw) ng k gi wi) (hk : k < ng + nw) (hgi : gi ≤ ng) (hwi : wi < nw) (hlt : gi < ng → fw wi < fg gi) : o k = ng + wi ∧ Done o (ng + nw) ng (k + 1) gi (wi + 1) := by
  have e : o k = ng + wi := by
    refine pick hO (strict hO hD) hd hk (by omega) (by omega) ?_
    intro p' hp' hn'
    rw [keyF_hi]
    by_cases h : p' < ng
    · rw [keyF_lo h]
      have h1 := rising ag gi p' (by omega) h
      have h2 := hlt (by omega)
      omega
    · obtain ⟨j, rfl⟩ : ∃ j, p' = ng + j := ⟨p' - ng, by omega⟩
      rw [keyF_hi]
      exact rising aw wi j (by omega) (by omega)
  refine ⟨e, ?_⟩
  intro p hp
  constructor
  · intro h
    by_cases h1 : p = ng + wi
    · exact ⟨k, by omega, by rw [h1]; exact e⟩
    · obtain ⟨j, hj, hjp⟩ := (hd p hp).1 (by omega)
      exact ⟨j, by omega, hjp⟩
  · rintro ⟨j, hj, hjp⟩
    by_cases h1 : j = k
    · subst h1; rw [e] at hjp; omega
    · have := (hd p hp).2 ⟨j, by omega, hjp⟩; omega

theorem some_left (hO : Ord (keyF ng fg fw) (ng + nw) o) (hD : ∀ k, k + 1 < ng + nw → keyF ng fg fw (o k) ≠ keyF ng fg fw (o (k + 1)))
    {k gi wi : Nat} (hd : Done o (ng + nw) ng k gi wi) (hk : k < ng + nw) : gi < ng ∨ wi < nw := by
  have h1 := hO.lt k hk
  by_cases h : (o k < gi ∨ (ng ≤ o k ∧ o k < ng + wi))
  · obtain ⟨j, hj, hjk⟩ := (hd _ h1).1 h
    have := strict hO hD j k hj hk
    rw [hjk] at this; omega
  · omega

theorem none_left (hO : Ord (keyF ng fg fw) (ng + nw) o) {gi wi : Nat} (hd : Done o (ng + nw) ng (ng + nw) gi wi) (hgi : gi ≤ ng) (hwi : wi ≤ nw) : ¬ gi < ng ∧ ¬ wi < nw := by
  constructor
  · intro h
    have := (hd gi (by omega)).2 (hO.onto gi (by omega)); omega
  · intro h
    have := (hd (ng + wi) (by omega)).2 (hO.onto (ng + wi) (by omega)); omega

theorem apart (hO : Ord (keyF ng fg fw) (ng + nw) o) (hD : ∀ k, k + 1 < ng + nw → keyF ng fg fw (o k) ≠ keyF ng fg fw (o (k + 1))) {i j : Nat} (hi : i < ng) (hj : j < nw) : fg i ≠ fw j := by
  obtain ⟨a, ha, hai⟩ := hO.onto i (by omega)
  obtain ⟨b, hb, hbj⟩ := hO.onto (ng + j) (by omega)
  have e1 : keyF ng fg fw (o a) = fg i := by rw [hai, keyF_lo hi]
  have e2 : keyF ng fg fw (o b) = fw j := by rw [hbj, keyF_hi]
  rw [← e1, ← e2]
  rcases Nat.lt_trichotomy a b with h | h | h
  · have := strict hO hD a b h hb; omega
  · subst h; omega
  · have := strict hO hD b a h ha; omega
end

theorem done_start (o : Nat → Nat) (n ng : Nat) : Done o n ng 0 0 0 := by
  intro p hp
  constructor
  · intro h; omega
  · rintro ⟨j, hj, -⟩; omega
end Go.Proofs.Qxb6614371a
