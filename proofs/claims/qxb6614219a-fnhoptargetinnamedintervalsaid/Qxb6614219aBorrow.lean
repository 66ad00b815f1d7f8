import Derived.Test.Qxb6614219aReduce
namespace Go.Proofs.Qxb6614219a
open Go.RowKit
set_option linter.unusedSimpArgs false

/-- The borrow behind the k lowest bytes. -/
def borF (A B k : Nat) : Nat := if A % 256 ^ k < B % 256 ^ k then 1 else 0
theorem borF_le (A B k : Nat) : borF A B k ≤ 1 := by unfold borF; split <;> omega
theorem dist_neg (A B k : Nat) (hk : k < 20) (h : (byteAt A (19 - k) : Int) - byteAt B (19 - k) - borF A B k < 0) :
    ((byteAt (subN A B) (19 - k) : Nat) : Int) = byteAt A (19 - k) - byteAt B (19 - k) - borF A B k + 256 ∧ borF A B (k + 1) = 1 := by
  have hk' : k = 0 ∨ k = 1 ∨ k = 2 ∨ k = 3 ∨ k = 4 ∨ k = 5 ∨ k = 6 ∨ k = 7 ∨ k = 8 ∨ k = 9 ∨ k = 10 ∨ k = 11 ∨ k = 12 ∨ k = 13 ∨ k = 14 ∨ k = 15 ∨ k = 16 ∨ k = 17 ∨ k = 18 ∨ k = 19 := by omega
  unfold borF byteAt at h
  unfold borF byteAt subN
  rcases hk' with rfl | rfl | rfl | rfl | rfl | rfl | rfl | rfl | rfl | rfl | rfl | rfl | rfl | rfl | rfl | rfl | rfl | rfl | rfl | rfl <;>
    (simp only [Nat.reducePow, Nat.reduceSub, Nat.reduceAdd] at h ⊢; split at h <;> (rename_i hx; simp only [hx, if_true, if_false]; refine ⟨by omega, ?_⟩; rw [if_pos (by omega)]))
theorem dist_pos (A B k : Nat) (hk : k < 20) (h : ¬ (byteAt A (19 - k) : Int) - byteAt B (19 - k) - borF A B k < 0) :
    ((byteAt (subN A B) (19 - k) : Nat) : Int) = byteAt A (19 - k) - byteAt B (19 - k) - borF A B k ∧ borF A B (k + 1) = 0 := by
  have hk' : k = 0 ∨ k = 1 ∨ k = 2 ∨ k = 3 ∨ k = 4 ∨ k = 5 ∨ k = 6 ∨ k = 7 ∨ k = 8 ∨ k = 9 ∨ k = 10 ∨ k = 11 ∨ k = 12 ∨ k = 13 ∨ k = 14 ∨ k = 15 ∨ k = 16 ∨ k = 17 ∨ k = 18 ∨ k = 19 := by omega
  unfold borF byteAt at h
  unfold borF byteAt subN
  rcases hk' with rfl | rfl | rfl | rfl | rfl | rfl | rfl | rfl | rfl | rfl | rfl | rfl | rfl | rfl | rfl | rfl | rfl | rfl | rfl | rfl <;>
    (simp only [Nat.reducePow, Nat.reduceSub, Nat.reduceAdd] at h ⊢; split at h <;> (rename_i hx; simp only [hx, if_true, if_false]; refine ⟨by omega, ?_⟩; rw [if_neg (by omega)]))
end Go.Proofs.Qxb6614219a
