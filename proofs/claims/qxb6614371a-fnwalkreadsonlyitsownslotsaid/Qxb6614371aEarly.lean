import Derived.Test.Qxb6614371aPlace
import Derived.Test.Qxb6614371aMerge
namespace Go.Proofs.Qxb6614371a
open Go.RowKit Go.Maps
set_option linter.unusedVariables false
set_option linter.unusedSimpArgs false

set_option maxRecDepth 100000 in
set_option maxHeartbeats 1000000 in
/-- A slice that is too long, or a slot out of range. -/
theorem law5_big (x : Int) (a0 a1 : Option Addr) (n0 c0 n1 c1 : Nat) (w : World) (h0 : n0 ≤ maxLen) (h1 : n1 ≤ maxLen) (hb : ¬ (n0 ≤ 4096 ∧ n1 ≤ 4096)) :
    Calls Try.prog 5 #[.int .i32 x, .slice a0 n0 c0, .slice a1 n1 c1] w fun e w' => e = .returned (.bool true) ∧ Below w.heap.size w w' := by
  by_cases g0 : n0 ≤ 4096
  · have g1 : ¬ n1 ≤ 4096 := by omega
    clear hb
    go_enter Try.func5, Try.ntmps5
    go_wp2_with (go_at_call 8; refine (bytes_some _ _ _ _ _ _ _ _ h0 h1).mono ?_; rintro e w' ⟨b, rfl, rfl⟩; unfold maxLen at h0 h1)
    all_goals (go_ret; exact ⟨rfl, Below.refl _ _⟩)
  · clear hb
    go_enter Try.func5, Try.ntmps5
    go_wp2_with (go_at_call 8; refine (bytes_some _ _ _ _ _ _ _ _ h0 h1).mono ?_; rintro e w' ⟨b, rfl, rfl⟩; unfold maxLen at h0 h1)
    all_goals (go_ret; exact ⟨rfl, Below.refl _ _⟩)

set_option maxRecDepth 100000 in
set_option maxHeartbeats 1000000 in
theorem law5_slot (x : Int) (a0 a1 : Option Addr) (n0 c0 n1 c1 : Nat) (w : World) (h0 : n0 ≤ 4096) (h1 : n1 ≤ 4096) (hx : ¬ (0 ≤ x ∧ x ≤ 65536)) :
    Calls Try.prog 5 #[.int .i32 x, .slice a0 n0 c0, .slice a1 n1 c1] w fun e w' => e = .returned (.bool true) ∧ Below w.heap.size w w' := by
  by_cases g0 : x < 0
  · clear hx
    go_enter Try.func5, Try.ntmps5
    go_wp2_with (go_at_call 8; refine (bytes_yes _ _ _ _ _ _ _ _ (by omega) (by omega)).mono ?_; rintro e w' ⟨rfl, rfl⟩)
    go_ret
    exact ⟨rfl, Below.refl _ _⟩
  · have g1 : 65536 < x := by omega
    clear hx
    go_enter Try.func5, Try.ntmps5
    go_wp2_with (go_at_call 8; refine (bytes_yes _ _ _ _ _ _ _ _ (by omega) (by omega)).mono ?_; rintro e w' ⟨rfl, rfl⟩)
    go_ret
    exact ⟨rfl, Below.refl _ _⟩

set_option maxRecDepth 100000 in
set_option maxHeartbeats 1000000 in
theorem law5_asc (k : Nat) (a0 a1 : Option Addr) (n0 c0 n1 c1 : Nat) (fg fw : Nat → Int) (w : World) (h0 : n0 ≤ 4096) (h1 : n1 ≤ 4096) (hk : k ≤ 65536) (m0 : Nms w a0 n0 fg) (m1 : Nms w a1 n1 fw)
    (ha : ¬ ((∀ i, i + 1 < n0 → fg i < fg (i + 1)) ∧ (∀ i, i + 1 < n1 → fw i < fw (i + 1)))) :
    Calls Try.prog 5 #[.int .i32 k, .slice a0 n0 c0, .slice a1 n1 c1] w fun e w' => e = .returned (.bool true) ∧ Below w.heap.size w w' := by
  have hk' : (k : Int) ≤ 65536 := by omega
  by_cases g0 : ∀ i, i + 1 < n0 → fg i < fg (i + 1)
  · have g1 : ¬ ∀ i, i + 1 < n1 → fw i < fw (i + 1) := fun h => ha ⟨g0, h⟩
    have G0 : Hid _ := g0
    have G1 : Hid _ := g1
    clear ha g0 g1
    go_enter Try.func5, Try.ntmps5
    go_wp2_with (first
      | (go_at_call 8; refine (bytes_yes _ _ _ _ _ _ _ _ (by omega) (by omega)).mono ?_; rintro e w' ⟨rfl, rfl⟩)
      | (go_at_call_of 9 (Value.slice a0 n0 c0); refine (asc_any _ _ _ fg _ m0 h0).mono ?_; rintro e w1 ⟨hs, hw1⟩; obtain rfl := hs.is_true G0.out; clear hs; have m1' := m1.below hw1)
      | (go_at_call 9; refine (asc_any _ _ _ fw _ m1' h1).mono ?_; rintro e w2 ⟨hs, hw2⟩; obtain rfl := hs.is_false G1.out; clear hs))
    go_ret
    exact ⟨rfl, hw1.trans (hw2.mono hw1.size)⟩
  · have G0 : Hid _ := g0
    clear ha g0
    go_enter Try.func5, Try.ntmps5
    go_wp2_with (first
      | (go_at_call 8; refine (bytes_yes _ _ _ _ _ _ _ _ (by omega) (by omega)).mono ?_; rintro e w' ⟨rfl, rfl⟩)
      | (go_at_call 9; refine (asc_any _ _ _ fg _ m0 h0).mono ?_; rintro e w1 ⟨hs, hw1⟩; obtain rfl := hs.is_false G0.out; clear hs))
    go_ret
    exact ⟨rfl, hw1⟩
end Go.Proofs.Qxb6614371a
