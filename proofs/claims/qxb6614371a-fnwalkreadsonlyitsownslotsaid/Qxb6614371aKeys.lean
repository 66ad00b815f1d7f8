import Derived.Test.Qxb6614371aProg
import Derived.WalkKit
import Derived.WalkSpells
import Derived.WalkLawsBesides
import Derived.Deep.QuietTactic
import Derived.BigQuiet
import Derived.Below
import Derived.OwnWalk
namespace Go.Proofs.Qxb6614371a
open Go.RowKit
set_option linter.unusedVariables false
set_option linter.unusedSimpArgs false

theorem below_drewN {B : Nat} {a w : World} (h : Below B a w) (n : Nat) : Below B a (w.drewN n) := ⟨h.os, h.tape, h.output, h.size, h.block⟩

/-- The slice value at 'a', of 'n' elements, reads as the uint32 numbers 'f 0', .., 'f (n-1)'. -/
def Nms (w : World) (a : Option Addr) (n : Nat) (f : Nat → Int) : Prop :=
  ∀ i, i < n → ∃ b o, a = some ⟨b, o, none⟩ ∧ w.cell? ⟨b, o + i, none⟩ = some (.int .u32 (f i)) ∧ 0 ≤ f i ∧ f i ≤ 4294967295

theorem Nms.below {w w' : World} {a : Option Addr} {n : Nat} {f : Nat → Int} (h : Nms w a n f) (hb : Below w.heap.size w w') : Nms w' a n f := by
  intro i hi
  obtain ⟨b, o, h1, h2, h3⟩ := h i hi
  exact ⟨b, o, h1, by rw [hb.cell (World.block_lt_of_cell? _ _ h2)]; exact h2, h3⟩

theorem Nms.index {w : World} {a : Option Addr} {n : Nat} {f : Nat → Int} (hB : Nms w a n f) (c k : Nat) (hk : k < n) :
    ∃ x : Addr, (∀ w', (Instr.indexAt 24 (.slice a n c) (.int .i64 (k : Int))).run Try.prog w' = .ok (.pointer (some x)) w') ∧ w.cell? x = some (.int .u32 (f k)) := by
  obtain ⟨b, o, rfl, hc, -⟩ := hB k hk
  refine ⟨⟨b, o + k, none⟩, ?_, hc⟩
  intro w'
  have h1 : (0 : Int) ≤ k := by omega
  have h2 : (k : Int) < n := by omega
  go_simp

/-- The number at position i of g followed by w. -/
def keyF (ng : Nat) (fg fw : Nat → Int) (i : Nat) : Int := if i < ng then fg i else fw (i - ng)

/-- The bound on the total length. -/
theorem bytes_yes (x : Int) (a0 a1 : Option Addr) (n0 c0 n1 c1 : Nat) (w : World) (h0 : n0 ≤ 262144) (h1 : n1 ≤ 262144) :
    Calls Try.prog 8 #[.int .i32 x, .slice a0 n0 c0, .slice a1 n1 c1] w fun e w' => e = .returned (.bool true) ∧ w = w' := by
  go_enter Try.func8, Try.ntmps8
  go_wp2
  go_ret
  exact ⟨rfl, rfl⟩
theorem bytes_some (x : Int) (a0 a1 : Option Addr) (n0 c0 n1 c1 : Nat) (w : World) (h0 : n0 ≤ maxLen) (h1 : n1 ≤ maxLen) :
    Calls Try.prog 8 #[.int .i32 x, .slice a0 n0 c0, .slice a1 n1 c1] w fun e w' => ∃ b, e = .returned (.bool b) ∧ w = w' := by
  unfold maxLen at h0 h1
  go_enter Try.func8, Try.ntmps8
  go_wp2
  all_goals (go_ret; exact ⟨_, rfl, rfl⟩)
theorem bytes2_yes (x y : Int) (a0 a1 : Option Addr) (n0 c0 n1 c1 : Nat) (w : World) (h0 : n0 ≤ 262144) (h1 : n1 ≤ 262144) :
    Calls Try.prog 20 #[.int .i32 x, .int .u32 y, .slice a0 n0 c0, .slice a1 n1 c1] w fun e w' => e = .returned (.bool true) ∧ w = w' := by
  go_enter Try.func20, Try.ntmps20
  go_wp2
  go_ret
  exact ⟨rfl, rfl⟩
theorem bytes2_some (x y : Int) (a0 a1 : Option Addr) (n0 c0 n1 c1 : Nat) (w : World) (h0 : n0 ≤ maxLen) (h1 : n1 ≤ maxLen) :
    Calls Try.prog 20 #[.int .i32 x, .int .u32 y, .slice a0 n0 c0, .slice a1 n1 c1] w fun e w' => ∃ b, e = .returned (.bool b) ∧ w = w' := by
  unfold maxLen at h0 h1
  go_enter Try.func20, Try.ntmps20
  go_wp2
  all_goals (go_ret; exact ⟨_, rfl, rfl⟩)

/-- The call returns a bool: whether P. -/
def SaysB (e : Ending) (P : Prop) : Prop := ∃ b, e = .returned (.bool b) ∧ (b = true ↔ P)
theorem SaysB.no {P : Prop} (h : ¬ P) : SaysB (.returned (.bool false)) P := ⟨false, rfl, by simp [h]⟩
theorem SaysB.yes {P : Prop} (h : P) : SaysB (.returned (.bool true)) P := ⟨true, rfl, by simp [h]⟩
theorem SaysB.is_true {e : Ending} {P : Prop} (h : SaysB e P) (hp : P) : e = .returned (.bool true) := by
  obtain ⟨b, he, hb⟩ := h
  rw [hb.2 hp] at he; exact he
theorem SaysB.is_false {e : Ending} {P : Prop} (h : SaysB e P) (hp : ¬ P) : e = .returned (.bool false) := by
  obtain ⟨b, he, hb⟩ := h
  cases b with
  | false => exact he
  | true => exact absurd (hb.1 rfl) hp

theorem key_lo (b o n0 c0 : Nat) (a1 : Option Addr) (n1 c1 i : Nat) (v : Int) (w : World) (hc : w.cell? ⟨b, o + i, none⟩ = some (.int .u32 v)) (hn0 : n0 ≤ 4096) (hi : i < n0) :
    Calls Try.prog 24 #[.slice (some ⟨b, o, none⟩) n0 c0, .slice a1 n1 c1, .int .i64 i] w fun e w' => e = .returned (.int .u32 v) ∧ w = w' := by
  have hlt' : (i : Int) < n0 := by omega
  go_enter Try.func24, Try.ntmps24
  go_wp2
  go_ret
  exact ⟨rfl, rfl⟩
theorem key_hi (a0 : Option Addr) (n0 c0 b o n1 c1 j : Nat) (x v : Int) (w : World) (hc : w.cell? ⟨b, o + j, none⟩ = some (.int .u32 v)) (hn1 : n1 ≤ 4096) (hj : j < n1) (hx : ¬ x < n0) (hx2 : x - n0 = j) :
    Calls Try.prog 24 #[.slice a0 n0 c0, .slice (some ⟨b, o, none⟩) n1 c1, .int .i64 x] w fun e w' => e = .returned (.int .u32 v) ∧ w = w' := by
  go_enter Try.func24, Try.ntmps24
  go_wp2
  go_ret
  exact ⟨rfl, rfl⟩

/-- zzKey. -/
theorem key_any (a0 a1 : Option Addr) (n0 c0 n1 c1 i : Nat) (fg fw : Nat → Int) (v : Int) (w : World) (h0 : Nms w a0 n0 fg) (h1 : Nms w a1 n1 fw) (hn0 : n0 ≤ 4096) (hn1 : n1 ≤ 4096) (hi : i < n0 + n1) (hv : keyF n0 fg fw i = v) :
    Calls Try.prog 24 #[.slice a0 n0 c0, .slice a1 n1 c1, .int .i64 i] w fun e w' => e = .returned (.int .u32 v) ∧ w = w' := by
  subst hv
  unfold keyF
  by_cases hlt : i < n0
  · obtain ⟨b, o, rfl, hc, -⟩ := h0 i hlt
    rw [if_pos hlt]
    exact key_lo b o n0 c0 a1 n1 c1 i _ w hc hn0 hlt
  · obtain ⟨b, o, rfl, hc, -⟩ := h1 (i - n0) (by omega)
    rw [if_neg hlt]
    exact key_hi a0 n0 c0 b o n1 c1 (i - n0) i _ w hc hn1 (by omega) (by omega) (by omega)

theorem asc_zero (a : Option Addr) (c : Nat) (f : Nat → Int) (w : World) :
    Calls Try.prog 9 #[.slice a 0 c] w fun e w' => SaysB e (∀ i, i + 1 < 0 → f i < f (i + 1)) ∧ Below w.heap.size w w' := by
  go_enter Try.func9, Try.ntmps9
  go_wp2
  refine wp_loop_rounds 1 ?_
  rw [rounds_succ]
  go_wp2
  go_ret
  exact ⟨SaysB.yes (by intro i hi; omega), Below.refl _ _⟩

set_option maxHeartbeats 400000 in
theorem asc_some (b o n c : Nat) (f : Nat → Int) (w : World) (h : ∀ i, i < n → w.cell? ⟨b, o + i, none⟩ = some (.int .u32 (f i))) (hn : n ≤ 4096) :
    Calls Try.prog 9 #[.slice (some ⟨b, o, none⟩) n c] w fun e w' => SaysB e (∀ i, i + 1 < n → f i < f (i + 1)) ∧ Below w.heap.size w w' := by
  go_enter Try.func9, Try.ntmps9
  go_wp2
  go_loopw [3] (fun t wr => ∃ k j : Nat, (k + 1 ≤ n ∨ k = 0) ∧ t = .int .i64 (k + 1) ∧ wr = w.drewN j ∧ ∀ i, i < k → i + 1 < n → f i < f (i + 1)) (fun t _ => n - (intOf t).toNat)
  case atStart => exact ⟨0, 0, by omega, rfl, rfl, by intro i hi; omega⟩
  case round =>
    obtain ⟨k, j, hk, rfl, rfl, hall⟩ := hrel
    have Hall : Hid _ := hall
    clear hall
    by_cases hlt : k + 1 < n
    · have g1 := h k (by omega)
      have g2 := h (k + 1) hlt
      have hlt' : (k : Int) + 1 < n := by omega
      by_cases hge : f (k + 1) ≤ f k
      · go_wp2
        go_quiet (fail)
        go_wp2
        go_ret
        exact ⟨SaysB.no (fun h => absurd (h k hlt) (by omega)), below_drewN (below_drewN (Below.refl _ _) _) _⟩
      · go_wp2
        go_quiet (fail)
        go_wp2
        go_roundw
        case rel =>
          refine ⟨k + 1, _, by omega, by go_num, rfl, ?_⟩
          intro i hi hi2
          by_cases e : i = k
          · subst e; omega
          · exact Hall.out i (by omega) hi2
        case measure => simp [intOf]; omega
    · have hlt' : ¬ (k : Int) + 1 < n := by omega
      go_wp2
      go_ret
      exact ⟨SaysB.yes (fun i hi => Hall.out i (by omega) hi), below_drewN (Below.refl _ _) _⟩

/-- zzAscending. -/
theorem asc_any (a : Option Addr) (n c : Nat) (f : Nat → Int) (w : World) (h : Nms w a n f) (hn : n ≤ 4096) :
    Calls Try.prog 9 #[.slice a n c] w fun e w' => SaysB e (∀ i, i + 1 < n → f i < f (i + 1)) ∧ Below w.heap.size w w' := by
  by_cases h0 : n = 0
  · subst h0; exact asc_zero a c f w
  · obtain ⟨b, o, rfl, -⟩ := h 0 (by omega)
    refine asc_some b o n c f w ?_ hn
    intro i hi
    obtain ⟨_, _, e, hc, -⟩ := h i hi
    simp at e; obtain ⟨rfl, rfl⟩ := e
    exact hc
end Go.Proofs.Qxb6614371a
