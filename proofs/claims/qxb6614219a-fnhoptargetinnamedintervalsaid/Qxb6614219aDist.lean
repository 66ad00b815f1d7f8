import Derived.Test.Qxb6614219aBorrow
namespace Go.Proofs.Qxb6614219a
open Go.RowKit
set_option linter.unusedSimpArgs false

/-- C with its bits from m on below q cleared. -/
def clr (C m q : Nat) : Nat := C % 2 ^ m + C / 2 ^ q * 2 ^ q
theorem clr_bit (C m q j : Nat) (h : m ≤ q) : (clr C m q).testBit j = (decide (j < m ∨ q ≤ j) && C.testBit j) := by
  unfold clr
  have hlt : C % 2 ^ m < 2 ^ q := Nat.lt_of_lt_of_le (Nat.mod_lt _ (Nat.two_pow_pos m)) (Nat.pow_le_pow_right (by decide) h)
  rw [Nat.mul_comm, Nat.add_comm, Nat.testBit_two_pow_mul_add _ hlt]
  by_cases hj : j < q
  · rw [if_pos hj, Nat.testBit_mod_two_pow]
    have : (decide (j < m ∨ q ≤ j)) = decide (j < m) := by
      by_cases hm : j < m
      · simp [hm]
      · simp [hm]; omega
    rw [this]
  · rw [if_neg hj, Nat.testBit_div_two_pow]
    have : decide (j < m ∨ q ≤ j) = true := by simp; omega
    rw [this, show j - q + q = j by omega]; simp
theorem clr_start (C m : Nat) : clr C m m = C := by unfold clr; rw [Nat.mul_comm]; exact Nat.mod_add_div C (2 ^ m)
theorem clr_end (C m : Nat) (h : C < 2 ^ 160) : clr C m 160 = C % 2 ^ m := by unfold clr; rw [Nat.div_eq_of_lt h]; simp

theorem andNot_bit (y r : Nat) (hr : r < 8) (j : Nat) : (y &&& (255 - 2 ^ r)).testBit j = (y.testBit j && decide (j < 8 ∧ j ≠ r)) := by
  rw [Nat.testBit_and]
  congr 1
  have hr' : r = 0 ∨ r = 1 ∨ r = 2 ∨ r = 3 ∨ r = 4 ∨ r = 5 ∨ r = 6 ∨ r = 7 := by omega
  by_cases hj : j < 8
  · have hj' : j = 0 ∨ j = 1 ∨ j = 2 ∨ j = 3 ∨ j = 4 ∨ j = 5 ∨ j = 6 ∨ j = 7 := by omega
    rcases hr' with rfl | rfl | rfl | rfl | rfl | rfl | rfl | rfl <;> rcases hj' with rfl | rfl | rfl | rfl | rfl | rfl | rfl | rfl <;> decide
  · have e : decide (j < 8 ∧ j ≠ r) = false := by simp; omega
    rw [e]
    apply Nat.testBit_lt_two_pow
    have h1 : (2 : Nat) ^ 8 ≤ 2 ^ j := Nat.pow_le_pow_right (by decide) (by omega)
    have : (2 : Nat) ^ 8 = 256 := by decide
    exact Nat.lt_of_le_of_lt (Nat.sub_le _ _) (by omega)

theorem andNot_val (y r : Nat) (hy : y < 256) (hr : r < 8) : bits .andNot .u8 (y : Int) (2 ^ r % 256) = ((y &&& (255 - 2 ^ r) : Nat) : Int) := by
  have h1 : (2 : Nat) ^ r < 256 := by
    have : (2 : Nat) ^ r ≤ 2 ^ 7 := Nat.pow_le_pow_right (by decide) (by omega)
    have e : (2 : Nat) ^ 7 = 128 := by decide
    omega
  have e : (2 : Int) ^ r % 256 = ((2 ^ r : Nat) : Int) := by
    have hr' : r = 0 ∨ r = 1 ∨ r = 2 ∨ r = 3 ∨ r = 4 ∨ r = 5 ∨ r = 6 ∨ r = 7 := by omega
    rcases hr' with rfl | rfl | rfl | rfl | rfl | rfl | rfl | rfl <;> rfl
  rw [e]; exact u8_andNot_nat y _ hy h1

/-- One round of clearing. -/
theorem clr_step (C m q : Nat) (h : m ≤ q) (hq : q < 160) :
    (idL (clr C m q)).set (19 - q / 8) (.int .u8 ((byteAt (clr C m q) (19 - q / 8) &&& (255 - 2 ^ (q % 8)) : Nat) : Int)) = idL (clr C m (q + 1)) := by
  apply List.ext_getElem?
  intro i
  by_cases hi : i < 20
  · rw [idL_get _ _ hi, List.getElem?_set]
    by_cases hq' : 19 - q / 8 = i
    · rw [if_pos hq', if_pos (by rw [idL_len]; omega)]
      congr 4
      apply Nat.eq_of_testBit_eq; intro j
      rw [andNot_bit _ _ (by omega), byteAt_bit, byteAt_bit, clr_bit _ _ _ _ h, clr_bit _ _ _ _ (by omega)]
      by_cases hj : j < 8
      · have e1 : 8 * (19 - (19 - q / 8)) + j = 8 * (q / 8) + j := by omega
        have e2 : 8 * (19 - i) + j = 8 * (q / 8) + j := by omega
        rw [e1, e2]
        by_cases hjr : j = q % 8
        · have a : 8 * (q / 8) + j = q := by omega
          rw [a]
          have : decide (q < m ∨ q + 1 ≤ q) = false := by simp; omega
          rw [this]
          simp [hjr]
        · have : decide (8 * (q / 8) + j < m ∨ q ≤ 8 * (q / 8) + j) = decide (8 * (q / 8) + j < m ∨ q + 1 ≤ 8 * (q / 8) + j) := by
            rw [decide_eq_decide]; omega
          rw [this]
          simp [hj, hjr]
      · simp [hj]
    · have e : byteAt (clr C m q) i = byteAt (clr C m (q + 1)) i := by
        apply Nat.eq_of_testBit_eq; intro j
        rw [byteAt_bit, byteAt_bit, clr_bit _ _ _ _ h, clr_bit _ _ _ _ (by omega)]
        by_cases hj : j < 8
        · have : decide (8 * (19 - i) + j < m ∨ q ≤ 8 * (19 - i) + j) = decide (8 * (19 - i) + j < m ∨ q + 1 ≤ 8 * (19 - i) + j) := by
            rw [decide_eq_decide]; omega
          rw [this]
        · simp [hj]
      rw [if_neg hq', idL_get _ _ hi, e]
  · rw [List.getElem?_eq_none (by simp [idL_len]; omega), List.getElem?_eq_none (by rw [idL_len]; omega)]

/-- Twenty cells that hold the bytes of C are C's. -/
theorem all_bytes {ds : List Value} {C : Nat} (hl : ds.length = 20) (h : ∀ j, j < 20 → ds[j]? = some (.int .u8 ((byteAt C j : Nat) : Int))) : ds = idL C := by
  apply List.ext_getElem?
  intro i
  by_cases hi : i < 20
  · rw [h i hi, idL_get _ _ hi]
  · rw [List.getElem?_eq_none (by omega), List.getElem?_eq_none (by rw [idL_len]; omega)]

set_option maxRecDepth 100000 in
set_option maxHeartbeats 2000000 in
/-- zzDist. -/
theorem dist_any (A B m : Nat) (w : World) (hm : m ≤ 160) :
    Calls Try.prog 17 #[.agg (idL A).toArray, .agg (idL B).toArray, .int .i64 m] w fun e w' => e = .returned (.agg (idL (subN A B % 2 ^ m)).toArray) ∧ Below w.heap.size w w' := by
  obtain ⟨C, hC⟩ : ∃ C, C = subN A B := ⟨_, rfl⟩
  have HC : Hid _ := hC
  have HC160 : Hid (C < 2 ^ 160) := by rw [hC]; exact Nat.mod_lt _ (by decide)
  clear hC
  go_enter Try.func17, Try.ntmps17
  go_upto_region 0 with fail
  go_cut [3, 4, 6] (fun p q s W => p = .pointer (some ⟨w.heap.size, 0, none⟩) ∧ q = .pointer (some ⟨w.heap.size + 1, 0, none⟩) ∧ s = .pointer (some ⟨w.heap.size + 2, 0, none⟩) ∧
    Row W w.heap.size (idL A) 22 ∧ Row W (w.heap.size + 1) (idL B) 22 ∧ Row W (w.heap.size + 2) zeros20 22 ∧ W.heap.size = w.heap.size + 3 ∧ Below w.heap.size w W)
  case first =>
    go_wp2
    go_meet
    case rel => exact ⟨rfl, rfl, rfl, ((row_new _ (idL A) _ _ rfl).alloc _).alloc _, (row_new _ (idL B) _ _ (by simp)).alloc _, row_new _ zeros20 _ _ (by simp), by simp, (((Below.refl _ _).alloc (Nat.le_refl _) _).alloc (by simp) _).alloc (by simp; omega) _⟩
  case rest =>
    obtain ⟨rfl, rfl, rfl, r0, r1, r2, hsz, hb⟩ := hcut
    go_upto_region 1 with fail
    go_cut [7] (fun p W => p = .pointer (some ⟨w.heap.size + 3, 0, none⟩) ∧ Row W w.heap.size (idL A) 22 ∧ Row W (w.heap.size + 1) (idL B) 22 ∧ Row W (w.heap.size + 2) zeros20 22 ∧ Row W (w.heap.size + 3) zeros20 22 ∧ Below w.heap.size w W)
    case first =>
      go_wp2
      go_meet
      case rel => exact ⟨rfl, r0.alloc _, r1.alloc _, r2.alloc _, row_new _ zeros20 _ _ hsz.symm, hb.alloc hb.size _⟩
    case rest =>
      clear r0 r1 r2 hsz hb
      obtain ⟨rfl, r0, r1, r2, r3, hb⟩ := hcut
      go_wp2
      go_loopw [8, 9] (fun bo t wr => ∃ k : Nat, k ≤ 20 ∧ t = .int .i64 (19 - (k : Int)) ∧ bo = .int .i64 ((borF A B k : Nat) : Int) ∧ Row wr w.heap.size (idL A) 22 ∧ Row wr (w.heap.size + 1) (idL B) 22 ∧ Row wr (w.heap.size + 2) zeros20 22 ∧
        (∃ ds : List Value, Row wr (w.heap.size + 3) ds 22 ∧ ds.length = 20 ∧ Hid (∀ j, 20 - k ≤ j → j < 20 → ds[j]? = some (.int .u8 ((byteAt C j : Nat) : Int)))) ∧ Below w.heap.size w wr) (fun _ t _ => (intOf t + 1).toNat)
      case atStart => exact ⟨0, by omega, rfl, by simp [borF, Nat.mod_one], r0, r1, r2, ⟨zeros20, r3, by simp [zeros20], fun j h1 h2 => by omega⟩, hb⟩
      case round =>
        clear r0 r1 r2 r3 hb
        obtain ⟨k, hk, rfl, rfl, r0, r1, r2, ⟨ds, r3, hdl, hds⟩, hb⟩ := hrel
        by_cases hlt : k < 20
        · obtain ⟨i, hi⟩ : ∃ i : Nat, 19 - (k : Int) = i := ⟨19 - k, by omega⟩
          have hi' : i = 19 - k := by omega
          obtain ⟨ya, hya⟩ : ∃ y : Nat, y = byteAt A i := ⟨_, rfl⟩
          obtain ⟨yb, hyb⟩ : ∃ y : Nat, y = byteAt B i := ⟨_, rfl⟩
          obtain ⟨bo, hbo⟩ : ∃ y : Nat, y = borF A B k := ⟨_, rfl⟩
          have ca : wr.cell? ⟨w.heap.size, i, none⟩ = some (.int .u8 (ya : Int)) := by rw [idL_cell r0 i (by omega), hya]
          have cb : wr.cell? ⟨w.heap.size + 1, i, none⟩ = some (.int .u8 (yb : Int)) := by rw [idL_cell r1 i (by omega), hyb]
          have cd := r3.cell' i (by omega)
          have fd := r3.free i
          generalize ds[i] = xd at cd
          have ba : (ya : Int) < 256 := by rw [hya]; unfold byteAt; omega
          have bb : (yb : Int) < 256 := by rw [hyb]; unfold byteAt; omega
          have b1 : (bo : Int) ≤ 1 := by have := borF_le A B k; rw [hbo]; omega
          have hi20 : (i : Int) < 20 := by omega
          rw [hi, ← hbo]
          have HI : Hid _ := hi
          by_cases hneg : (ya : Int) - yb - bo < 0
          · have HE : Hid _ := dist_neg A B k hlt (by rw [← hi', ← hya, ← hyb, ← hbo]; exact hneg)
            rw [← hi', ← hya, ← hyb, ← hbo, ← HC.out] at HE
            clear hi hi' hya hyb hbo
            go_wp2
            go_quiet (fail)
            go_wp2
            go_roundw
            case rel =>
              have hi := HI.out
              have hE := HE.out
              refine ⟨k + 1, by omega, by go_num, by rw [hE.2]; rfl, ?_, ?_, ?_, ⟨ds.set i (.int .u8 ((byteAt C i : Nat) : Int)), ?_, by simpa using hdl, ?_⟩, ?_⟩
              · exact Row.grown (w := wr.drewN _) r0 (grown_setCell _ _ _ _) (by simp)
              · exact Row.grown (w := wr.drewN _) r1 (grown_setCell _ _ _ _) (by simp)
              · exact Row.grown (w := wr.drewN _) r2 (grown_setCell _ _ _ _) (by simp)
              · rw [hE.1]; exact Row.setCell (w := wr.drewN _) r3 _ _
              · intro j h1 h2
                rw [List.getElem?_set]
                by_cases hj : i = j
                · rw [if_pos hj, if_pos (by omega), hj]
                · rw [if_neg hj]; exact hds j (by omega) h2
              · exact (below_drewN hb _).setCell (by simp) _
            case measure => simp [intOf]
          · have HE : Hid _ := dist_pos A B k hlt (by rw [← hi', ← hya, ← hyb, ← hbo]; exact hneg)
            rw [← hi', ← hya, ← hyb, ← hbo, ← HC.out] at HE
            clear hi hi' hya hyb hbo
            go_wp2
            go_quiet (fail)
            go_wp2
            go_roundw
            case rel =>
              have hi := HI.out
              have hE := HE.out
              refine ⟨k + 1, by omega, by go_num, by rw [hE.2]; rfl, ?_, ?_, ?_, ⟨ds.set i (.int .u8 ((byteAt C i : Nat) : Int)), ?_, by simpa using hdl, ?_⟩, ?_⟩
              · exact Row.grown (w := wr.drewN _) r0 (grown_setCell _ _ _ _) (by simp)
              · exact Row.grown (w := wr.drewN _) r1 (grown_setCell _ _ _ _) (by simp)
              · exact Row.grown (w := wr.drewN _) r2 (grown_setCell _ _ _ _) (by simp)
              · rw [hE.1]; exact Row.setCell (w := wr.drewN _) r3 _ _
              · intro j h1 h2
                rw [List.getElem?_set]
                by_cases hj : i = j
                · rw [if_pos hj, if_pos (by omega), hj]
                · rw [if_neg hj]; exact hds j (by omega) h2
              · exact (below_drewN hb _).setCell (by simp) _
            case measure => simp [intOf]
        · have r3' : Row wr (w.heap.size + 3) (idL (clr C m m)) 22 := by
            rw [clr_start, ← all_bytes hdl (fun j h => hds j (by omega) h)]; exact r3
          clear hds r3 r0 r1
          go_wp2
          go_loopw [11] (fun t wr => ∃ q : Nat, m ≤ q ∧ q ≤ 160 ∧ t = .int .i64 (q : Int) ∧ Row wr (w.heap.size + 2) zeros20 22 ∧ Row wr (w.heap.size + 3) (idL (clr C m q)) 22 ∧ Below w.heap.size w wr) (fun t _ => 160 - (intOf t).toNat)
          case atStart => exact ⟨m, Nat.le_refl _, hm, rfl, r2, r3', hb⟩
          case round =>
            clear r2 r3' hb
            obtain ⟨q, hmq, hq, rfl, r2, r3, hb⟩ := hrel
            by_cases hlt : q < 160
            · obtain ⟨y, hy⟩ : ∃ y : Nat, y = byteAt (clr C m q) (19 - q / 8) := ⟨_, rfl⟩
              have cd : wr.cell? ⟨w.heap.size + 3, 19 - q / 8, none⟩ = some (.int .u8 (y : Int)) := by rw [idL_cell r3 _ (by omega), hy]
              have fd := r3.free (19 - q / 8)
              have hy2 : (y : Int) < 256 := by rw [hy]; unfold byteAt; omega
              have hq2 : (q : Int) < 160 := by omega
              have HY : Hid _ := hy
              clear hy
              go_wp2
              go_roundw
              case rel =>
                refine ⟨q + 1, by omega, by omega, by go_num, r2.grown (grown_setCell _ _ _ _) (by simp), ?_, hb.setCell (by simp) _⟩
                rw [andNot_val y (q % 8) (by omega) (by omega), HY.out, ← clr_step C m q hmq hlt]
                exact r3.setCell _ _
              case measure => simp [intOf]; omega
            · have hM : clr C m q = C % 2 ^ m := by rw [show q = 160 by omega]; exact clr_end C m HC160.out
              obtain ⟨M, hM2⟩ : ∃ M, M = clr C m q := ⟨_, rfl⟩
              rw [← hM2] at r3
              have HM : Hid (M = subN A B % 2 ^ m) := by rw [← HC.out, ← hM]; exact hM2
              have hid := id20 M
              clear hM hM2
              go_wp2_with (first
                | refine wpList_load_row rfl 22 (.tmp 7) rfl (w.heap.size + 3) rfl 22 (idL M).toArray (0, 0) _ r3 Try.underlying22 rfl hid.size22 ?_
                | refine wpList_store_row rfl 22 _ _ rfl (w.heap.size + 2) (idL M).toArray rfl rfl 22 _ r2 hid.size22 (by simp [zeros20, hid.1]) hid.all ?_)
              refine bodyPost_ret (v := .agg (idL M).toArray) (results_cell_row Try.results17 _ _ (w.heap.size + 2) 22 (idL M).toArray (0, 0) _ rfl r2.setRow Try.underlying22 rfl hid.size22) rfl ⟨by rw [HM.out], ?_⟩
              exact below_setRow hb (by omega) _
end Go.Proofs.Qxb6614219a
