import Derived.Test.Qxb6614154aProg
import Derived.WalkKit
import Derived.WalkSpells
import Derived.WalkLawsBesides
import Derived.Deep.QuietTactic
import Derived.BigQuiet
import Derived.Laws.CopyOwn
namespace Go.Proofs.Qxb6614154a
open Go.RowKit

/-- The slice value at 'a', of 'n' elements, reads as the bytes 'f 0', .., 'f (n-1)'. -/
def Bts (w : World) (a : Option Addr) (n : Nat) (f : Nat → Int) : Prop :=
  ∀ i, i < n → ∃ b o, a = some ⟨b, o, none⟩ ∧ w.cell? ⟨b, o + i, none⟩ = some (.int .u8 (f i)) ∧ 0 ≤ f i ∧ f i ≤ 255

/-- Bit k of the bytes f, counted from the most significant bit of f 0. -/
def bitF (f : Nat → Int) (k : Nat) : Int := bits BinOp.and IntKind.u8 (f (k / 8) / 2 ^ (7 - k % 8)) 1

theorem bitF_shift (f : Nat → Int) (q j : Nat) : bitF (fun i => f (q + i)) j = bitF f (8 * q + j) := by
  unfold bitF
  have e1 : (8 * q + j) / 8 = q + j / 8 := by omega
  have e2 : (8 * q + j) % 8 = j % 8 := by omega
  rw [e1, e2]

set_option maxHeartbeats 400000 in
theorem bit_at (b o n c k : Nat) (v : Int) (w : World) (hk : k / 8 < n) (hn : n ≤ 4194304) (hc : w.cell? ⟨b, o + k / 8, none⟩ = some (.int .u8 v)) (_h0 : 0 ≤ v) (_h1 : v ≤ 255) :
    Calls Try.prog 10 #[.slice (some ⟨b, o, none⟩) n c, .int .i64 k] w fun e w' => e = .returned (.int .u8 (bits BinOp.and IntKind.u8 (v / 2 ^ (7 - k % 8)) 1)) ∧ w = w' := by
  go_enter Try.func10, Try.ntmps10
  go_wp2
  go_ret
  exact ⟨rfl, rfl⟩

/-- zzBit. -/
theorem bit_any (a : Option Addr) (n c : Nat) (f : Nat → Int) (k : Int) (r : Int) (w : World) (hB : Bts w a n f) (hn : n ≤ 4194304) (h0 : 0 ≤ k) (h1 : k < 8 * n) (hr : bitF f k.toNat = r) :
    Calls Try.prog 10 #[.slice a n c, .int .i64 k] w fun e w' => e = .returned (.int .u8 r) ∧ w = w' := by
  obtain ⟨k, rfl⟩ := Int.eq_ofNat_of_zero_le h0
  have hk : k / 8 < n := by omega
  obtain ⟨b, o, rfl, hc, g0, g1⟩ := hB (k / 8) hk
  subst hr
  exact bit_at b o n c k _ w hk hn hc g0 g1

/-- SBIT and EBIT. -/
def sbF (st : Nat) : Nat := st % 8
def ebF (en : Nat) : Nat := (8 - en % 8) % 8
def lenF (st en : Nat) : Nat := (en + 7) / 8 - st / 8
theorem sbF_le (st : Nat) : sbF st ≤ 7 := by unfold sbF; omega
theorem ebF_le (st : Nat) : ebF st ≤ 7 := by unfold ebF; omega

theorem ret3 {a : Option Addr} {n n' c c' : Nat} {x x' y y' : Int} (h1 : n = n') (h2 : c = c') (h3 : x = x') (h4 : y = y') :
    Ending.returned (.tuple #[.slice a n c, .int .u8 x, .int .u8 y]) = .returned (.tuple #[.slice a n' c', .int .u8 x', .int .u8 y']) := by rw [h1, h2, h3, h4]

/-- spanBytes: s[start/8 : (end+7)/8], start%8, (8 - end%8)%8. -/
theorem span_any (a : Option Addr) (n c st en : Nat) (f : Nat → Int) (w : World) (hB : Bts w a n f) (hn : n ≤ 4194304) (hc : n ≤ c) (h1 : st ≤ en) (h2 : en ≤ 8 * n) :
    Calls Try.prog 21 #[.slice a n c, .int .i64 st, .int .i64 en] w fun e w' =>
      ∃ a' c', e = .returned (.tuple #[.slice a' (lenF st en) c', .int .u8 (sbF st : Nat), .int .u8 (ebF en : Nat)]) ∧ Bts w a' (lenF st en) (fun i => f (st / 8 + i)) ∧ w = w' := by
  have hl : lenF st en ≤ n - st / 8 := by unfold lenF; omega
  by_cases hcs : c = st / 8
  · have h0 : lenF st en = 0 := by omega
    have HC : Hid (c = st / 8) := hcs
    go_enter Try.func21, Try.ntmps21
    go_wp2
    go_ret3
    refine ⟨a, _, ret3 (by unfold lenF; rfl) rfl (by unfold sbF; omega) (by unfold ebF; omega), ?_, rfl⟩
    intro i hi; omega
  · go_enter Try.func21, Try.ntmps21
    go_wp2
    go_ret3
    refine ⟨_, _, ret3 (by unfold lenF; rfl) rfl (by unfold sbF; omega) (by unfold ebF; omega), ?_, rfl⟩
    intro i hi
    obtain ⟨b, o, rfl, hcell, g⟩ := hB (st / 8 + i) (by omega)
    exact ⟨b, o + st / 8, by simp [Addr.add], by rw [Nat.add_assoc]; exact hcell, g⟩

/-- ZZspanBytes. -/
theorem zspan_any (a : Option Addr) (n c st en : Nat) (f : Nat → Int) (w : World) (hB : Bts w a n f) (hn : n ≤ 4194304) (hc : n ≤ c) (h1 : st ≤ en) (h2 : en ≤ 8 * n) :
    Calls Try.prog 8 #[.slice a n c, .int .i64 st, .int .i64 en] w fun e w' =>
      ∃ a' c', e = .returned (.tuple #[.slice a' (lenF st en) c', .int .u8 (sbF st : Nat), .int .u8 (ebF en : Nat)]) ∧ Bts w a' (lenF st en) (fun i => f (st / 8 + i)) ∧ w = w' := by
  go_enter Try.func8, Try.ntmps8
  go_wp2_with (go_at_call 21; refine (span_any a n c st en f _ hB hn hc h1 h2).mono ?_; rintro e w' ⟨a', c', rfl, hb, rfl⟩)
  go_ret3
  exact ⟨a', c', rfl, hb, rfl⟩

set_option maxHeartbeats 400000 in
theorem window_some (b o n c b' o' m c' q sb eb : Nat) (en : Int) (f : Nat → Int) (w : World)
    (hB : ∀ i, i < m → w.cell? ⟨b, o + (q + i), none⟩ = some (.int .u8 (f (q + i)))) (hD : ∀ i, i < m → w.cell? ⟨b', o' + i, none⟩ = some (.int .u8 (f (q + i)))) (hn : n ≤ 4194304)
    (h1 : sb ≤ 7) (h2 : eb ≤ 7) (hen1 : en ≤ 8 * q + 8 * m - eb) (hen2 : 8 * q + 8 * m - eb ≤ en) (hm : q + m ≤ n) :
    Calls Try.prog 9 #[.slice (some ⟨b, o, none⟩) n c, .int .i64 (8 * q + sb), .int .i64 en, .slice (some ⟨b', o', none⟩) m c', .int .u8 sb, .int .u8 eb] w fun e w' => e = .returned (.bool true) ∧ ∃ j, w' = w.drewN j := by
  go_enter Try.func9, Try.ntmps9
  go_wp2
  go_loopw [14] (fun t wr => ∃ k j : Nat, k ≤ m ∧ t = .int .i64 k ∧ wr = w.drewN j) (fun t _ => m - (intOf t).toNat)
  case atStart => exact ⟨0, 0, by omega, rfl, rfl⟩
  case round =>
    obtain ⟨k, j, hk, rfl, rfl⟩ := hrel
    by_cases hlt : k < m
    · have g1 := hB k hlt
      have g2 := hD k hlt
      have hlt' : (k : Int) < m := by omega
      have hlt2 : (q : Int) + k < n := by omega
      go_wp2
      go_quiet (fail)
      go_wp2
      go_roundw
      case rel => exact ⟨k + 1, _, by omega, by go_num, rfl⟩
      case measure => simp [intOf]; omega
    · go_wp2
      go_ret
      exact ⟨rfl, _, rfl⟩

set_option maxHeartbeats 400000 in
theorem window_none (a : Option Addr) (n c : Nat) (a' : Option Addr) (c' q sb eb : Nat) (en : Int) (w : World) (hn : n ≤ 4194304)
    (h1 : sb ≤ 7) (h2 : eb ≤ 7) (hen1 : en ≤ 8 * q - eb) (hen2 : 8 * q - eb ≤ en) (hm : q ≤ n) :
    Calls Try.prog 9 #[.slice a n c, .int .i64 (8 * q + sb), .int .i64 en, .slice a' 0 c', .int .u8 sb, .int .u8 eb] w fun e w' => e = .returned (.bool true) ∧ ∃ j, w' = w.drewN j := by
  go_enter Try.func9, Try.ntmps9
  go_wp2
  refine wp_loop_rounds 1 ?_
  rw [rounds_succ]
  go_wp2
  go_ret
  exact ⟨rfl, 0, rfl⟩

/-- zzWindowOK. -/
theorem window_any (a : Option Addr) (n c : Nat) (a' : Option Addr) (m c' q sb eb : Nat) (st en : Int) (f : Nat → Int) (w : World) (hB : Bts w a n f) (hD : Bts w a' m (fun i => f (q + i))) (hn : n ≤ 4194304)
    (h1 : sb ≤ 7) (h2 : eb ≤ 7) (hst : st = 8 * q + sb) (hen : en = 8 * q + 8 * m - eb) (hm : q + m ≤ n) :
    Calls Try.prog 9 #[.slice a n c, .int .i64 st, .int .i64 en, .slice a' m c', .int .u8 sb, .int .u8 eb] w fun e w' => e = .returned (.bool true) ∧ ∃ j, w' = w.drewN j := by
  subst hst
  by_cases h0 : m = 0
  · subst h0
    exact window_none a n c a' c' q sb eb en w hn h1 h2 (by omega) (by omega) (by omega)
  · obtain ⟨b, o, rfl, -⟩ := hB q (by omega)
    obtain ⟨b', o', rfl, -⟩ := hD 0 (by omega)
    refine window_some b o n c b' o' m c' q sb eb en f w ?_ ?_ hn h1 h2 (by omega) (by omega) hm
    · intro i hi
      obtain ⟨_, _, h, hc, -⟩ := hB (q + i) (by omega)
      simp at h; obtain ⟨rfl, rfl⟩ := h
      exact hc
    · intro i hi
      obtain ⟨_, _, h, hc, -⟩ := hD i hi
      simp at h; obtain ⟨rfl, rfl⟩ := h
      exact hc
end Go.Proofs.Qxb6614154a
