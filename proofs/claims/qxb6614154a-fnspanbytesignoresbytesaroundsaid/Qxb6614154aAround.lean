import Derived.Test.Qxb6614154aCut
namespace Go.Proofs.Qxb6614154a
open Go.RowKit

theorem bytes2_yes (a0 a1 a2 : Option Addr) (n0 c0 n1 c1 n2 c2 : Nat) (x y : Int) (w : World) (h0 : n0 ≤ 262144) (h1 : n1 ≤ 262144) (h2 : n2 ≤ 262144) :
    Calls Try.prog 11 #[.slice a0 n0 c0, .slice a1 n1 c1, .slice a2 n2 c2, .int .i64 x, .int .i64 y] w fun e w' => e = .returned (.bool true) ∧ w = w' := by
  go_enter Try.func11, Try.ntmps11
  go_wp2
  go_ret
  exact ⟨rfl, rfl⟩
theorem bytes2_some (a0 a1 a2 : Option Addr) (n0 c0 n1 c1 n2 c2 : Nat) (x y : Int) (w : World) (h0 : n0 ≤ maxLen) (h1 : n1 ≤ maxLen) (h2 : n2 ≤ maxLen) :
    Calls Try.prog 11 #[.slice a0 n0 c0, .slice a1 n1 c1, .slice a2 n2 c2, .int .i64 x, .int .i64 y] w fun e w' => ∃ b, e = .returned (.bool b) ∧ w = w' := by
  unfold maxLen at h0 h1 h2
  go_enter Try.func11, Try.ntmps11
  go_wp2
  all_goals (go_ret; exact ⟨_, rfl, rfl⟩)

set_option maxRecDepth 100000 in
set_option maxHeartbeats 1000000 in
/-- A slice that is too long: the early ways out. -/
theorem around_big (a0 a1 a2 : Option Addr) (n0 c0 n1 c1 n2 c2 : Nat) (x y : Int) (w : World) (h0 : n0 ≤ maxLen) (h1 : n1 ≤ maxLen) (h2 : n2 ≤ maxLen) (hb : ¬ (n0 ≤ 262144 ∧ n1 ≤ 262144 ∧ n2 ≤ 262144)) :
    Calls Try.prog 4 #[.slice a0 n0 c0, .slice a1 n1 c1, .slice a2 n2 c2, .int .i64 x, .int .i64 y] w fun e w' => e = .returned (.bool true) ∧ Below w.heap.size w w' := by
  by_cases g0 : n0 ≤ 262144
  · by_cases g1 : n1 ≤ 262144
    · have g2 : ¬ n2 ≤ 262144 := by omega
      clear hb
      go_enter Try.func4, Try.ntmps4
      go_wp2_with (go_at_call 11; refine (bytes2_some _ _ _ _ _ _ _ _ _ _ _ _ h0 h1 h2).mono ?_; rintro e w' ⟨b, rfl, rfl⟩; unfold maxLen at h0 h1 h2)
      all_goals (go_ret; exact ⟨rfl, Below.refl _ _⟩)
    · clear hb
      go_enter Try.func4, Try.ntmps4
      go_wp2_with (go_at_call 11; refine (bytes2_some _ _ _ _ _ _ _ _ _ _ _ _ h0 h1 h2).mono ?_; rintro e w' ⟨b, rfl, rfl⟩; unfold maxLen at h0 h1 h2)
      all_goals (go_ret; exact ⟨rfl, Below.refl _ _⟩)
  · clear hb
    go_enter Try.func4, Try.ntmps4
    go_wp2_with (go_at_call 11; refine (bytes2_some _ _ _ _ _ _ _ _ _ _ _ _ h0 h1 h2).mono ?_; rintro e w' ⟨b, rfl, rfl⟩; unfold maxLen at h0 h1 h2)
    all_goals (go_ret; exact ⟨rfl, Below.refl _ _⟩)

set_option maxRecDepth 100000 in
set_option maxHeartbeats 1000000 in
/-- The numbers are out of order. -/
theorem around_out (a0 a1 a2 : Option Addr) (n0 c0 n1 c1 n2 c2 : Nat) (x y : Int) (w : World) (h0 : n0 ≤ 262144) (h1 : n1 ≤ 262144) (h2 : n2 ≤ 262144) (h : x < 0 ∨ y < x ∨ 8 * (n1 : Int) < y) :
    Calls Try.prog 4 #[.slice a0 n0 c0, .slice a1 n1 c1, .slice a2 n2 c2, .int .i64 x, .int .i64 y] w fun e w' => e = .returned (.bool true) ∧ Below w.heap.size w w' := by
  by_cases g1 : x < 0
  · clear h
    go_enter Try.func4, Try.ntmps4
    go_wp2_with (go_at_call 11; refine (bytes2_yes _ _ _ _ _ _ _ _ _ _ _ _ h0 h1 h2).mono ?_; rintro e w' ⟨rfl, rfl⟩)
    go_ret
    exact ⟨rfl, Below.refl _ _⟩
  by_cases g2 : y < x
  · clear h
    go_enter Try.func4, Try.ntmps4
    go_wp2_with (go_at_call 11; refine (bytes2_yes _ _ _ _ _ _ _ _ _ _ _ _ h0 h1 h2).mono ?_; rintro e w' ⟨rfl, rfl⟩)
    go_ret
    exact ⟨rfl, Below.refl _ _⟩
  · have g4 : 8 * (n1 : Int) < y := by omega
    clear h
    go_enter Try.func4, Try.ntmps4
    go_wp2_with (go_at_call 11; refine (bytes2_yes _ _ _ _ _ _ _ _ _ _ _ _ h0 h1 h2).mono ?_; rintro e w' ⟨rfl, rfl⟩)
    go_ret
    exact ⟨rfl, Below.refl _ _⟩

theorem Bts.index {w : World} {a : Option Addr} {n : Nat} {f : Nat → Int} (hB : Bts w a n f) (c k : Nat) (hk : k < n) :
    ∃ x : Addr, (∀ w', (Instr.indexAt 22 (.slice a n c) (.int .i64 (k : Int))).run Try.prog w' = .ok (.pointer (some x)) w') ∧ w.cell? x = some (.int .u8 (f k)) := by
  obtain ⟨b, o, rfl, hc, -⟩ := hB k hk
  refine ⟨⟨b, o + k, none⟩, ?_, hc⟩
  intro w'
  have h1 : (0 : Int) ≤ k := by omega
  have h2 : (k : Int) < n := by omega
  go_simp
theorem Bts.below {B : Nat} {w w' : World} {a : Option Addr} {n : Nat} {f : Nat → Int} (h : Bts w a n f) (hb : Below B w w') (hB : w.heap.size ≤ B) : Bts w' a n f := by
  intro i hi
  obtain ⟨b, o, h1, h2, h3⟩ := h i hi
  exact ⟨b, o, h1, by rw [hb.cell (Nat.lt_of_lt_of_le (World.block_lt_of_cell? _ _ h2) hB)]; exact h2, h3⟩
theorem Bts.congr {w : World} {a : Option Addr} {n : Nat} {f g : Nat → Int} (h : Bts w a n f) (he : ∀ i, i < n → f i = g i) : Bts w a n g := by
  intro i hi
  rw [← he i hi]
  exact h i hi

/-- The row 'whole' while it is filled: every one of its N cells is there and may be written; the first m hold G. -/
structure Fill (w : World) (h N : Nat) (G : Nat → Int) (m : Nat) : Prop where
  there : ∀ i, i < N → ∃ v, w.cell? ⟨h, i, none⟩ = some v
  free : ∀ i, i < N → w.frozen? ⟨h, i, none⟩ = false
  done : ∀ i, i < m → w.cell? ⟨h, i, none⟩ = some (.int .u8 (G i))

theorem Fill.step {w : World} {h N : Nat} {G : Nat → Int} {m : Nat} (hf : Fill w h N G m) (hm : m < N) {v : Int} (hv : v = G m) : Fill (w.setCell ⟨h, m, none⟩ (.int .u8 v)) h N G (m + 1) := by
  subst hv
  refine ⟨?_, ?_, ?_⟩
  · intro i hi
    obtain ⟨u, hu⟩ := hf.there i hi
    exact cell?_setCell_some hu
  · intro i hi
    rw [World.frozen?_setCell]
    exact hf.free i hi
  · intro i hi
    by_cases e : i = m
    · subst e
      obtain ⟨u, hu⟩ := hf.there i hm
      exact World.cell?_setCell_same _ _ _ hu
    · rw [World.cell?_setCell_other _ _ _ _ (by intro h; injection h; omega)]
      exact hf.done i (by omega)

theorem fill_made {w : World} {h N : Nat} {ys : List Value} (G : Nat → Int) (hh : w.heap[h]? = some (.cells ys.toArray 5 (0, 0))) (hy : ys.length = N) : Fill w h N G 0 := by
  refine ⟨?_, ?_, by intro i hi; omega⟩
  · intro i hi
    exact ⟨_, cell_row hh i (by omega)⟩
  · intro i _
    simp [World.frozen?, hh]

theorem zspan_moved (a : Option Addr) (n c q st en : Nat) (x y : Int) (f : Nat → Int) (w : World) (hx : x = st + 8 * q) (hy : y = en + 8 * q) (hB : Bts w a n f) (hn : n ≤ 4194304) (hc : n ≤ c) (h1 : st ≤ en) (h2 : en + 8 * q ≤ 8 * n) :
    Calls Try.prog 8 #[.slice a n c, .int .i64 x, .int .i64 y] w fun e w' =>
      ∃ a' c', e = .returned (.tuple #[.slice a' (lenF st en) c', .int .u8 (sbF st : Nat), .int .u8 (ebF en : Nat)]) ∧ Bts w a' (lenF st en) (fun i => f (q + (st / 8 + i))) ∧ w = w' := by
  obtain rfl : x = ((st + 8 * q : Nat) : Int) := by omega
  obtain rfl : y = ((en + 8 * q : Nat) : Int) := by omega
  refine (zspan_any a n c (st + 8 * q) (en + 8 * q) f w hB hn hc (by omega) h2).mono ?_
  have e1 : lenF (st + 8 * q) (en + 8 * q) = lenF st en := by unfold lenF; omega
  have e2 : sbF (st + 8 * q) = sbF st := by unfold sbF; omega
  have e3 : ebF (en + 8 * q) = ebF en := by unfold ebF; omega
  rw [e1, e2, e3]
  rintro e w' ⟨a', c', rfl, hb, rfl⟩
  refine ⟨a', c', rfl, hb.congr ?_, rfl⟩
  intro i _
  rw [show (st + 8 * q) / 8 + i = q + (st / 8 + i) by omega]


/-- pre, s, post, one behind the other. -/
def joinF (n0 n1 : Nat) (f0 f1 f2 : Nat → Int) (i : Nat) : Int := if i < n0 then f0 i else if i < n0 + n1 then f1 (i - n0) else f2 (i - n0 - n1)
theorem joinF_0 (n0 n1 : Nat) (f0 f1 f2 : Nat → Int) (i : Nat) (h : i < n0) : f0 i = joinF n0 n1 f0 f1 f2 i := by unfold joinF; rw [if_pos h]
theorem joinF_1 (n0 n1 : Nat) (f0 f1 f2 : Nat → Int) (i : Nat) (h : i < n1) : f1 i = joinF n0 n1 f0 f1 f2 (n0 + i) := by
  unfold joinF; rw [if_neg (by omega), if_pos (by omega)]; congr 1; omega
theorem joinF_2 (n0 n1 : Nat) (f0 f1 f2 : Nat → Int) (i : Nat) : f2 i = joinF n0 n1 f0 f1 f2 (n0 + n1 + i) := by
  unfold joinF; rw [if_neg (by omega), if_neg (by omega)]; congr 1; omega


theorem fill_all {w : World} {h N m : Nat} {G : Nat → Int} (hF : Fill w h N G m) (hm : N ≤ m) (hG : ∀ i, i < N → 0 ≤ G i ∧ G i ≤ 255) : Bts w (some ⟨h, 0, none⟩) N G := by
  intro i hi
  exact ⟨h, 0, rfl, by rw [Nat.zero_add]; exact hF.done i (by omega), hG i hi⟩
theorem joinF_bd {w : World} {a0 a1 a2 : Option Addr} {n0 n1 n2 : Nat} {f0 f1 f2 : Nat → Int} (h0 : Bts w a0 n0 f0) (h1 : Bts w a1 n1 f1) (h2 : Bts w a2 n2 f2) : ∀ i, i < n0 + n1 + n2 → 0 ≤ joinF n0 n1 f0 f1 f2 i ∧ joinF n0 n1 f0 f1 f2 i ≤ 255 := by
  intro i hi
  unfold joinF
  by_cases g0 : i < n0
  · rw [if_pos g0]; obtain ⟨_, _, _, _, h⟩ := h0 i g0; exact h
  by_cases g1 : i < n0 + n1
  · rw [if_neg g0, if_pos g1]; obtain ⟨_, _, _, _, h⟩ := h1 (i - n0) (by omega); exact h
  · rw [if_neg g0, if_neg g1]; obtain ⟨_, _, _, _, h⟩ := h2 (i - n0 - n1) (by omega); exact h

set_option maxRecDepth 100000 in
set_option maxHeartbeats 4000000 in
theorem around_none (a0 a2 : Option Addr) (n0 c0 n1 c1 n2 c2 st en : Nat) (f0 f1 f2 : Nat → Int) (w : World) (hc1 : n1 ≤ c1) (hb0 : Bts w a0 n0 f0) (hb1 : Bts w none n1 f1) (hb2 : Bts w a2 n2 f2)
    (h0 : n0 ≤ 262144) (h1 : n1 ≤ 262144) (h2 : n2 ≤ 262144) (g1 : st ≤ en) (g2 : en ≤ 8 * n1) :
    Calls Try.prog 4 #[.slice a0 n0 c0, .slice none n1 c1, .slice a2 n2 c2, .int .i64 st, .int .i64 en] w fun e w' => e = .returned (.bool true) ∧ Below w.heap.size w w' := by
  obtain ⟨i0, hi, hz0, hz1, hz2⟩ := info_parts info5
  have b1 := sbF_le st
  have b2 := ebF_le en
  have hB2 : Below w.heap.size w w := Below.refl _ _
  have hs2 : w.heap.size ≤ w.heap.size := Nat.le_refl _
  go_enter Try.func4, Try.ntmps4
  go_wp2_with (first
    | (go_at_call 11; refine (bytes2_yes _ _ _ _ _ _ _ _ _ _ _ _ h0 h1 h2).mono ?_; rintro e w' ⟨rfl, rfl⟩)
    | fail)
  refine (zspan_any _ n1 _ st en f1 _ hb1 (by omega) (by omega) g1 g2).mono ?_
  rintro e w' ⟨aD, cD, rfl, hD, rfl⟩
  go_wp2_with (first | (at_make; refine wpList_make_full _ rfl _ _ 22 rfl w.heap.size 5 i0 (.int .u8 0) 1 Try.underlying22 hi hz0 hz1 _ _ _ _ (n0 + n1 + n2) rfl rfl (by omega) (by omega) (by rw [hz2]; omega) (by unfold maxLen; omega) (Nat.le_refl _) ?_; intro w3 hown hgrow))
  obtain ⟨hg, hyl⟩ := made_block hown
  have F0 := fill_made (joinF n0 n1 f0 f1 f2) hg hyl
  have hB3 : Below w.heap.size w w3 := (Below.refl _ _).grown hgrow (Nat.le_refl _) (by simp)
  clear hown hgrow hg hyl
  go_loopw [16] (fun t wr => ∃ k : Nat, k ≤ n0 ∧ t = .int .i64 k ∧ Fill wr w.heap.size (n0 + n1 + n2) (joinF n0 n1 f0 f1 f2) k ∧ Below w.heap.size w wr) (fun t _ => n0 - (intOf t).toNat)
  case atStart => exact ⟨0, by omega, rfl, F0, hB3⟩
  case round =>
    clear F0 hB3
    obtain ⟨k, hk, rfl, hF, hBr⟩ := hrel
    by_cases hlt : k < n0
    · obtain ⟨x, hix, hcx⟩ := (hb0.below hBr (Nat.le_refl _)).index c0 k hlt
      obtain ⟨v0, hv0⟩ := hF.there k (by omega)
      have hfr := hF.free k (by omega)
      have hlt' : (k : Int) < n0 + n1 + n2 := by omega
      go_wp2
      go_roundw
      case rel => exact ⟨k + 1, by omega, by go_num, hF.step (by omega) (joinF_0 _ _ _ _ _ _ hlt), hBr.setCell (Nat.le_refl _) _⟩
      case measure => simp [intOf]; omega
    · have F1 : Fill wr w.heap.size (n0 + n1 + n2) (joinF n0 n1 f0 f1 f2) (n0 + 0) := (show k = n0 + 0 by omega) ▸ hF
      clear hF
      go_wp2
      go_loopw [17] (fun t wr => ∃ k : Nat, k ≤ n1 ∧ t = .int .i64 k ∧ Fill wr w.heap.size (n0 + n1 + n2) (joinF n0 n1 f0 f1 f2) (n0 + k) ∧ Below w.heap.size w wr) (fun t _ => n1 - (intOf t).toNat)
      case atStart => exact ⟨0, by omega, rfl, F1, hBr⟩
      case round =>
        clear F1 hBr
        obtain ⟨k, hk, rfl, hF, hBr⟩ := hrel
        by_cases hlt : k < n1
        · obtain ⟨x, hix, hcx⟩ := (hb1.below hBr (Nat.le_refl _)).index c1 k hlt
          obtain ⟨v0, hv0⟩ := hF.there (n0 + k) (by omega)
          have hfr := hF.free (n0 + k) (by omega)
          have hlt' : (n0 : Int) + (k : Int) < n0 + n1 + n2 := by omega
          go_wp2
          go_roundw
          case rel => exact ⟨k + 1, by omega, by go_num, hF.step (by omega) (joinF_1 _ _ _ _ _ _ hlt), hBr.setCell (Nat.le_refl _) _⟩
          case measure => simp [intOf]; omega
        · have F2 : Fill wr w.heap.size (n0 + n1 + n2) (joinF n0 n1 f0 f1 f2) (n0 + n1 + 0) := (show n0 + k = n0 + n1 + 0 by omega) ▸ hF
          clear hF
          go_wp2
          go_loopw [18] (fun t wr => ∃ k : Nat, k ≤ n2 ∧ t = .int .i64 k ∧ Fill wr w.heap.size (n0 + n1 + n2) (joinF n0 n1 f0 f1 f2) (n0 + n1 + k) ∧ Below w.heap.size w wr) (fun t _ => n2 - (intOf t).toNat)
          case atStart => exact ⟨0, by omega, rfl, F2, hBr⟩
          case round =>
            clear F2 hBr
            obtain ⟨k, hk, rfl, hF, hBr⟩ := hrel
            by_cases hlt : k < n2
            · obtain ⟨x, hix, hcx⟩ := (hb2.below hBr (Nat.le_refl _)).index c2 k hlt
              obtain ⟨v0, hv0⟩ := hF.there (n0 + n1 + k) (by omega)
              have hfr := hF.free (n0 + n1 + k) (by omega)
              have hlt' : (n0 : Int) + (n1 : Int) + (k : Int) < n0 + n1 + n2 := by omega
              go_wp2
              go_roundw
              case rel => exact ⟨k + 1, by omega, by go_num, hF.step (by omega) (joinF_2 _ _ _ _ _ _), hBr.setCell (Nat.le_refl _) _⟩
              case measure => simp [intOf]; omega
            · have hW := fill_all hF (show n0 + n1 + n2 ≤ n0 + n1 + k by omega) (joinF_bd hb0 hb1 hb2)
              have hD' := hD.below hBr (Nat.le_refl _)
              have hb1' := hb1.below hBr (Nat.le_refl _)
              clear hF hb0 hb1 hb2 hD
              have bD1 : (8 * (lenF st en : Nat) : Int) - (sbF st : Nat) - (ebF en : Nat) ≤ en - st := by have := win_st st; have := win_en st en g1; omega
              have bD2 : (en : Int) - st ≤ 8 * (lenF st en : Nat) - (sbF st : Nat) - (ebF en : Nat) := by have := win_st st; have := win_en st en g1; omega
              have hne : (8 * ((lenF st en : Nat) : Int) - ((sbF st : Nat) : Int) - ((ebF en : Nat) : Int) != (en : Int) - (st : Int)) = false := by simp; omega
              have LD := win_le st en n1 g1 g2
              go_wp2_with fail
              refine (zspan_moved _ (n0 + n1 + n2) _ n0 st en _ _ (joinF n0 n1 f0 f1 f2) _ (by omega) (by omega) hW (by omega) (by omega) g1 (by omega)).mono ?_
              rintro e w' ⟨aE, cE, rfl, hE0, rfl⟩
              have hE : Bts wr aE (lenF st en) (fun i => f1 (st / 8 + i)) := hE0.congr (fun i hi => (joinF_1 n0 n1 f0 f1 f2 (st / 8 + i) (by omega)).symm)
              clear hE0 hW
              go_wp2_with fail
              go_loop [23] (fun t => ∃ k : Nat, k ≤ en - st ∧ t = .int .i64 k) (fun t => (en - st) - (intOf t).toNat)
              case atStart => exact ⟨0, by omega, rfl⟩
              case round =>
                obtain ⟨k, hk, rfl⟩ := hrel
                by_cases hlt : k < en - st
                · obtain ⟨r, hr⟩ : ∃ r, r = bitF f1 (st + k) := ⟨_, rfl⟩
                  have HR : Hid (r = bitF f1 (st + k)) := hr
                  clear hr
                  go_wp2_with fail
                  refine (bit_any aD (lenF st en) cD _ _ r _ hD' (by omega) (by omega) (by omega) (by rw [HR.out]; exact bit_at_st f1 st st k _ 0 (by omega) (by omega) (by omega))).mono ?_
                  rintro e w' ⟨rfl, rfl⟩
                  go_wp2_with fail
                  refine (bit_any _ n1 _ _ _ r _ hb1' (by omega) (by omega) (by omega) (by rw [HR.out]; congr 1)).mono ?_
                  rintro e w' ⟨rfl, rfl⟩
                  go_wp2
                  go_round
                  case rel => exact ⟨k + 1, by omega, by go_num⟩
                  case measure => simp [intOf]; omega
                · go_wp2
                  go_loopw [24] (fun t wx => ∃ k j : Nat, k ≤ lenF st en ∧ t = .int .i64 k ∧ wx = wr.drewN j) (fun t _ => lenF st en - (intOf t).toNat)
                  case atStart => exact ⟨0, 0, by omega, rfl, rfl⟩
                  case round =>
                    obtain ⟨k, j, hk, rfl, rfl⟩ := hrel
                    by_cases hlt : k < lenF st en
                    · obtain ⟨x, hix, hcx⟩ := hE.index cE k hlt
                      obtain ⟨y, hiy, hcy⟩ := hD'.index cD k hlt
                      have hlt' : (k : Int) < lenF st en := by omega
                      go_wp2
                      go_quiet (fail)
                      go_wp2
                      go_roundw
                      case rel => exact ⟨k + 1, _, by omega, by go_num, rfl⟩
                      case measure => simp [intOf]; omega
                    · go_wp2
                      go_ret
                      exact ⟨rfl, below_drewN (hB2.trans (hBr.mono hs2)) _⟩

set_option maxRecDepth 100000 in
set_option maxHeartbeats 4000000 in
theorem around_some (a0 : Option Addr) (x : Addr) (a2 : Option Addr) (n0 c0 n1 c1 n2 c2 st en : Nat) (f0 : Nat → Int) (z1 : List Int) (f2 : Nat → Int) (w : World) (hl : n1 ≤ c1) (hz : z1.length = c1)
    (hcell : ∀ i, i < z1.length → w.cell? (x.add i) = some (.int .u8 (z1.getD i 0))) (hwz : ∀ k ∈ z1, (Lit.int .u8 k).wf = true) (hb0 : Bts w a0 n0 f0) (hb2 : Bts w a2 n2 f2)
    (h0 : n0 ≤ 262144) (h1 : n1 ≤ 262144) (h2 : n2 ≤ 262144) (g1 : st ≤ en) (g2 : en ≤ 8 * n1) :
    Calls Try.prog 4 #[.slice a0 n0 c0, .slice (some x) n1 c1, .slice a2 n2 c2, .int .i64 st, .int .i64 en] w fun e w' => e = .returned (.bool true) ∧ Below w.heap.size w w' := by
  obtain ⟨i0, hi, hz0, hz1, hz2⟩ := info_parts info5
  have HZ : Hid (z1.length = c1) := hz
  have HC : Hid (∀ i, i < z1.length → w.cell? (x.add i) = some (.int .u8 (z1.getD i 0))) := hcell
  have HW : Hid (∀ k ∈ z1, (Lit.int .u8 k).wf = true) := hwz
  obtain ⟨f1, hf⟩ : ∃ f : Nat → Int, f = fun i => z1.getD i 0 := ⟨_, rfl⟩
  have HF : Hid (f1 = fun i => z1.getD i 0) := hf
  clear hz hcell hwz hf
  have b1 := sbF_le st
  have b2 := ebF_le en
  go_enter Try.func4, Try.ntmps4
  go_wp2_with (first
    | (go_at_call 11; refine (bytes2_yes _ _ _ _ _ _ _ _ _ _ _ _ h0 h1 h2).mono ?_; rintro e w' ⟨rfl, rfl⟩)
    | (at_make; refine wpList_make_full _ rfl _ _ 22 rfl w.heap.size 5 i0 (.int .u8 0) 1 Try.underlying22 hi hz0 hz1 _ _ _ _ n1 rfl rfl rfl rfl (by rw [hz2]; omega) (by unfold maxLen; omega) (Nat.le_refl _) ?_; intro w1 hown hgrow; obtain ⟨w2, hcp, hB2, hs2', hb1⟩ := copy_made x n1 c1 z1 hown hgrow hl HZ.out HC.out HW.out; rw [← HF.out] at hb1; clear hown hgrow)
    | fail)
  have hs2 : w.heap.size ≤ w2.heap.size := Nat.le_of_lt hs2'
  replace hb0 := hb0.below hB2 (Nat.le_refl _)
  replace hb2 := hb2.below hB2 (Nat.le_refl _)
  clear hcp
  refine (zspan_any _ n1 _ st en f1 _ hb1 (by omega) (by omega) g1 g2).mono ?_
  rintro e w' ⟨aD, cD, rfl, hD, rfl⟩
  go_wp2_with (first | (at_make; refine wpList_make_full _ rfl _ _ 22 rfl w2.heap.size 5 i0 (.int .u8 0) 1 Try.underlying22 hi hz0 hz1 _ _ _ _ (n0 + n1 + n2) rfl rfl (by omega) (by omega) (by rw [hz2]; omega) (by unfold maxLen; omega) (Nat.le_refl _) ?_; intro w3 hown hgrow))
  obtain ⟨hg, hyl⟩ := made_block hown
  have F0 := fill_made (joinF n0 n1 f0 f1 f2) hg hyl
  have hB3 : Below w2.heap.size w2 w3 := (Below.refl _ _).grown hgrow (Nat.le_refl _) (by simp)
  clear hown hgrow hg hyl
  go_loopw [16] (fun t wr => ∃ k : Nat, k ≤ n0 ∧ t = .int .i64 k ∧ Fill wr w2.heap.size (n0 + n1 + n2) (joinF n0 n1 f0 f1 f2) k ∧ Below w2.heap.size w2 wr) (fun t _ => n0 - (intOf t).toNat)
  case atStart => exact ⟨0, by omega, rfl, F0, hB3⟩
  case round =>
    clear F0 hB3
    obtain ⟨k, hk, rfl, hF, hBr⟩ := hrel
    by_cases hlt : k < n0
    · obtain ⟨x, hix, hcx⟩ := (hb0.below hBr (Nat.le_refl _)).index c0 k hlt
      obtain ⟨v0, hv0⟩ := hF.there k (by omega)
      have hfr := hF.free k (by omega)
      have hlt' : (k : Int) < n0 + n1 + n2 := by omega
      go_wp2
      go_roundw
      case rel => exact ⟨k + 1, by omega, by go_num, hF.step (by omega) (joinF_0 _ _ _ _ _ _ hlt), hBr.setCell (Nat.le_refl _) _⟩
      case measure => simp [intOf]; omega
    · have F1 : Fill wr w2.heap.size (n0 + n1 + n2) (joinF n0 n1 f0 f1 f2) (n0 + 0) := (show k = n0 + 0 by omega) ▸ hF
      clear hF
      go_wp2
      go_loopw [17] (fun t wr => ∃ k : Nat, k ≤ n1 ∧ t = .int .i64 k ∧ Fill wr w2.heap.size (n0 + n1 + n2) (joinF n0 n1 f0 f1 f2) (n0 + k) ∧ Below w2.heap.size w2 wr) (fun t _ => n1 - (intOf t).toNat)
      case atStart => exact ⟨0, by omega, rfl, F1, hBr⟩
      case round =>
        clear F1 hBr
        obtain ⟨k, hk, rfl, hF, hBr⟩ := hrel
        by_cases hlt : k < n1
        · obtain ⟨x, hix, hcx⟩ := (hb1.below hBr (Nat.le_refl _)).index n1 k hlt
          obtain ⟨v0, hv0⟩ := hF.there (n0 + k) (by omega)
          have hfr := hF.free (n0 + k) (by omega)
          have hlt' : (n0 : Int) + (k : Int) < n0 + n1 + n2 := by omega
          go_wp2
          go_roundw
          case rel => exact ⟨k + 1, by omega, by go_num, hF.step (by omega) (joinF_1 _ _ _ _ _ _ hlt), hBr.setCell (Nat.le_refl _) _⟩
          case measure => simp [intOf]; omega
        · have F2 : Fill wr w2.heap.size (n0 + n1 + n2) (joinF n0 n1 f0 f1 f2) (n0 + n1 + 0) := (show n0 + k = n0 + n1 + 0 by omega) ▸ hF
          clear hF
          go_wp2
          go_loopw [18] (fun t wr => ∃ k : Nat, k ≤ n2 ∧ t = .int .i64 k ∧ Fill wr w2.heap.size (n0 + n1 + n2) (joinF n0 n1 f0 f1 f2) (n0 + n1 + k) ∧ Below w2.heap.size w2 wr) (fun t _ => n2 - (intOf t).toNat)
          case atStart => exact ⟨0, by omega, rfl, F2, hBr⟩
          case round =>
            clear F2 hBr
            obtain ⟨k, hk, rfl, hF, hBr⟩ := hrel
            by_cases hlt : k < n2
            · obtain ⟨x, hix, hcx⟩ := (hb2.below hBr (Nat.le_refl _)).index c2 k hlt
              obtain ⟨v0, hv0⟩ := hF.there (n0 + n1 + k) (by omega)
              have hfr := hF.free (n0 + n1 + k) (by omega)
              have hlt' : (n0 : Int) + (n1 : Int) + (k : Int) < n0 + n1 + n2 := by omega
              go_wp2
              go_roundw
              case rel => exact ⟨k + 1, by omega, by go_num, hF.step (by omega) (joinF_2 _ _ _ _ _ _), hBr.setCell (Nat.le_refl _) _⟩
              case measure => simp [intOf]; omega
            · have hW := fill_all hF (show n0 + n1 + n2 ≤ n0 + n1 + k by omega) (joinF_bd hb0 hb1 hb2)
              have hD' := hD.below hBr (Nat.le_refl _)
              have hb1' := hb1.below hBr (Nat.le_refl _)
              clear hF hb0 hb1 hb2 hD
              have bD1 : (8 * (lenF st en : Nat) : Int) - (sbF st : Nat) - (ebF en : Nat) ≤ en - st := by have := win_st st; have := win_en st en g1; omega
              have bD2 : (en : Int) - st ≤ 8 * (lenF st en : Nat) - (sbF st : Nat) - (ebF en : Nat) := by have := win_st st; have := win_en st en g1; omega
              have hne : (8 * ((lenF st en : Nat) : Int) - ((sbF st : Nat) : Int) - ((ebF en : Nat) : Int) != (en : Int) - (st : Int)) = false := by simp; omega
              have LD := win_le st en n1 g1 g2
              go_wp2_with fail
              refine (zspan_moved _ (n0 + n1 + n2) _ n0 st en _ _ (joinF n0 n1 f0 f1 f2) _ (by omega) (by omega) hW (by omega) (by omega) g1 (by omega)).mono ?_
              rintro e w' ⟨aE, cE, rfl, hE0, rfl⟩
              have hE : Bts wr aE (lenF st en) (fun i => f1 (st / 8 + i)) := hE0.congr (fun i hi => (joinF_1 n0 n1 f0 f1 f2 (st / 8 + i) (by omega)).symm)
              clear hE0 hW
              go_wp2_with fail
              go_loop [23] (fun t => ∃ k : Nat, k ≤ en - st ∧ t = .int .i64 k) (fun t => (en - st) - (intOf t).toNat)
              case atStart => exact ⟨0, by omega, rfl⟩
              case round =>
                obtain ⟨k, hk, rfl⟩ := hrel
                by_cases hlt : k < en - st
                · obtain ⟨r, hr⟩ : ∃ r, r = bitF f1 (st + k) := ⟨_, rfl⟩
                  have HR : Hid (r = bitF f1 (st + k)) := hr
                  clear hr
                  go_wp2_with fail
                  refine (bit_any aD (lenF st en) cD _ _ r _ hD' (by omega) (by omega) (by omega) (by rw [HR.out]; exact bit_at_st f1 st st k _ 0 (by omega) (by omega) (by omega))).mono ?_
                  rintro e w' ⟨rfl, rfl⟩
                  go_wp2_with fail
                  refine (bit_any _ n1 _ _ _ r _ hb1' (by omega) (by omega) (by omega) (by rw [HR.out]; congr 1)).mono ?_
                  rintro e w' ⟨rfl, rfl⟩
                  go_wp2
                  go_round
                  case rel => exact ⟨k + 1, by omega, by go_num⟩
                  case measure => simp [intOf]; omega
                · go_wp2
                  go_loopw [24] (fun t wx => ∃ k j : Nat, k ≤ lenF st en ∧ t = .int .i64 k ∧ wx = wr.drewN j) (fun t _ => lenF st en - (intOf t).toNat)
                  case atStart => exact ⟨0, 0, by omega, rfl, rfl⟩
                  case round =>
                    obtain ⟨k, j, hk, rfl, rfl⟩ := hrel
                    by_cases hlt : k < lenF st en
                    · obtain ⟨x, hix, hcx⟩ := hE.index cE k hlt
                      obtain ⟨y, hiy, hcy⟩ := hD'.index cD k hlt
                      have hlt' : (k : Int) < lenF st en := by omega
                      go_wp2
                      go_quiet (fail)
                      go_wp2
                      go_roundw
                      case rel => exact ⟨k + 1, _, by omega, by go_num, rfl⟩
                      case measure => simp [intOf]; omega
                    · go_wp2
                      go_ret
                      exact ⟨rfl, below_drewN (hB2.trans (hBr.mono hs2)) _⟩

end Go.Proofs.Qxb6614154a
