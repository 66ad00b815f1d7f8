import Derived.Test.Qxb6614219aSub
import Derived.Lib.SliceRun
namespace Go.Proofs.Qxb6614219a
open Go.RowKit
set_option linter.unusedSimpArgs false

theorem byteAt_bit (N i j : Nat) : (byteAt N i).testBit j = (decide (j < 8) && N.testBit (8 * (19 - i) + j)) := by
  unfold byteAt
  rw [two_pow8, show (256 : Nat) = 2 ^ 8 by decide, Nat.testBit_mod_two_pow, Nat.testBit_div_two_pow, Nat.add_comm j]
theorem byteMod_0 (N m i : Nat) (h : m ≤ 8 * (19 - i)) : byteAt (N % 2 ^ m) i = 0 := by
  apply Nat.eq_of_testBit_eq; intro j
  rw [byteAt_bit, Nat.testBit_mod_two_pow]
  simp; omega
theorem byteMod_all (N m i : Nat) (h : 8 * (19 - i) + 8 ≤ m) : byteAt (N % 2 ^ m) i = byteAt N i := by
  apply Nat.eq_of_testBit_eq; intro j
  rw [byteAt_bit, byteAt_bit, Nat.testBit_mod_two_pow]
  by_cases hj : j < 8
  · have : 8 * (19 - i) + j < m := by omega
    simp [hj, this]
  · simp [hj]
theorem byteMod_part (N m i : Nat) (h1 : 8 * (19 - i) ≤ m) (h2 : m ≤ 8 * (19 - i) + 8) : byteAt (N % 2 ^ m) i = byteAt N i % 2 ^ (m - 8 * (19 - i)) := by
  apply Nat.eq_of_testBit_eq; intro j
  rw [Nat.testBit_mod_two_pow, byteAt_bit, byteAt_bit, Nat.testBit_mod_two_pow]
  by_cases hj : j < m - 8 * (19 - i)
  · have a : 8 * (19 - i) + j < m := by omega
    simp [hj, a]
  · have a : ¬ 8 * (19 - i) + j < m := by omega
    simp [hj, a]

theorem mask_and (y r : Nat) (hy : y < 256) (h1 : r < 8) : bits .and .u8 (y : Int) (255 / 2 ^ r) = ((y % 2 ^ (8 - r) : Nat) : Int) := by
  have e : (255 : Int) / 2 ^ r = ((2 ^ (8 - r) - 1 : Nat) : Int) := by
    have : r = 0 ∨ r = 1 ∨ r = 2 ∨ r = 3 ∨ r = 4 ∨ r = 5 ∨ r = 6 ∨ r = 7 := by omega
    rcases this with rfl | rfl | rfl | rfl | rfl | rfl | rfl | rfl <;> rfl
  have hl : 2 ^ (8 - r) - 1 < 256 := by
    have : (2 : Nat) ^ (8 - r) ≤ 2 ^ 8 := Nat.pow_le_pow_right (by decide) (by omega)
    omega
  rw [e, u8_and_nat y _ hy hl, Nat.and_two_pow_sub_one_eq_mod]

def zs (q : Nat) : List Value := List.replicate q (.int .u8 0)
theorem reduce_0 (N q : Nat) (h : q ≤ 19) : splice (idL N) 0 (zs q) = idL (N % 2 ^ (160 - 8 * q)) := by
  apply List.ext_getElem?
  intro i
  by_cases hi : i < 20
  · rw [idL_get _ _ hi]
    unfold splice zs
    simp only [List.take_zero, List.nil_append, List.length_replicate, Nat.zero_add]
    by_cases hq : i < q
    · rw [List.getElem?_append_left (by simpa using hq), List.getElem?_replicate, if_pos hq, byteMod_0 _ _ _ (by omega)]; rfl
    · rw [List.getElem?_append_right (by simpa using Nat.not_lt.1 hq)]
      simp only [List.length_replicate, List.getElem?_drop]
      rw [show q + (i - q) = i by omega, idL_get _ _ hi, byteMod_all _ _ _ (by omega)]
  · have h1 : (splice (idL N) 0 (zs q)).length = 20 := by rw [length_splice _ _ _ (by simp [zs, idL]; omega), idL_len]
    rw [List.getElem?_eq_none (by omega), List.getElem?_eq_none (by rw [idL_len]; omega)]
theorem reduce_r (N q r : Nat) (h : q ≤ 19) (h0 : 0 < r) (hr : r < 8) :
    (splice (idL N) 0 (zs q)).set q (.int .u8 ((byteAt N q % 2 ^ (8 - r) : Nat) : Int)) = idL (N % 2 ^ (160 - (8 * q + r))) := by
  rw [reduce_0 N q h]
  apply List.ext_getElem?
  intro i
  by_cases hi : i < 20
  · rw [idL_get _ _ hi, List.getElem?_set]
    by_cases hq : q = i
    · subst hq
      rw [if_pos rfl, if_pos (by rw [idL_len]; omega), byteMod_part _ _ _ (by omega) (by omega)]
      congr 5; omega
    · rw [if_neg hq, idL_get _ _ hi]
      by_cases hlt : i < q
      · rw [byteMod_0 _ _ _ (by omega), byteMod_0 _ _ _ (by omega)]
      · rw [byteMod_all _ _ _ (by omega), byteMod_all _ _ _ (by omega)]
  · rw [List.getElem?_eq_none (by simp [idL_len]; omega), List.getElem?_eq_none (by rw [idL_len]; omega)]

theorem zero5 : ∀ w, (zeroValue 5).run Try.prog w = .ok (.int .u8 0) w := fun _ => by kernel_rfl
/-- 'clear(id[:q])'. -/
theorem clear_row {W : World} {g t N : Nat} (hr : Row W g (idL N) t) (q : Nat) (hq : q ≤ 19) :
    ∃ W1, (∀ ty, (Builtin.clear_ #[43] ty #[.slice (some ⟨g, 0, none⟩) q 20]).run Try.prog W = .ok (.tuple #[]) W1) ∧ Row W1 g (splice (idL N) 0 (zs q)) t ∧ W.grownBy W1 (some g) := by
  by_cases h0 : q = 0
  · subst h0
    refine ⟨W, fun ty => ?_, ?_, World.grownBy.refl _ _⟩
    · simp [Builtin.clear_, run_underlying Try.underlying43]
    · simpa [splice, zs] using hr
  · obtain ⟨e1, e2⟩ := row_setCells g t (zs q) 0 (idL N) W hr (by simp [zs, idL]; omega)
    refine ⟨_, fun ty => ?_, e1, e2⟩
    exact Lib.run_clear_slice W 43 5 ty (.int .u8 0) Try.underlying43 zero5 rfl rfl g 0 q 20 (by omega)
      (fun j hj => by rw [Nat.zero_add, idL_cell hr j (by omega)]; rfl) (fun j hj => by rw [Nat.zero_add]; exact hr.free j)

theorem alen25 : Try.prog.arrayLen 25 = 20 := by kernel_rfl
theorem elem25 : Try.prog.elem 25 = 5 := by kernel_rfl
theorem sizeOf5 : ∀ w, (sizeOf 5).run Try.prog w = .ok 1 w := fun _ => by kernel_rfl
theorem und25 : Try.prog.underlying 25 = some (.array (Try.prog.arrayLen 25) (Try.prog.elem 25)) := by rw [alen25, elem25]; exact Try.underlying25
theorem slice_to (g q : Nat) (hq : q ≤ 19) (W : World) : (Instr.sliceAt 25 (.pointer (some ⟨g, 0, none⟩)) none (some (.int .i64 (q : Int))) none).run Try.prog W = .ok (.slice (some ⟨g, 0, none⟩) q 20) W := by
  rw [run_sliceAt_array_h W 25 ⟨g, 0, none⟩ und25 .i64 (q : Int) (by omega) (by rw [alen25]; omega), elem25, sizeOf5, alen25]
  simp [slicedAt, Result.andThen, Addr.add]

set_option maxRecDepth 100000 in
set_option maxHeartbeats 1000000 in
theorem reduce_any (N u : Nat) (w : World) (hu : u ≤ 159) :
    Calls Try.prog 42 #[.agg #[.int .i64 u], .agg (idL N).toArray] w fun e w' => e = .returned (.agg (idL (N % 2 ^ (160 - u))).toArray) ∧ Below w.heap.size w w' := by
  obtain ⟨q, hq⟩ : ∃ q, q = u / 8 := ⟨_, rfl⟩
  obtain ⟨r, hr⟩ : ∃ r, r = u % 8 := ⟨_, rfl⟩
  obtain rfl : u = 8 * q + r := by omega
  have hq19 : q ≤ 19 := by omega
  have hr8 : r < 8 := by omega
  clear hq hr hu
  go_enter Try.func42, Try.ntmps42
  go_upto_region 0 with fail
  go_cut [2, 3, 4] (fun p x s W => p = .pointer (some ⟨w.heap.size, 0, none⟩) ∧ x = .pointer (some ⟨w.heap.size + 1, 0, none⟩) ∧ s = .pointer (some ⟨w.heap.size + 2, 0, none⟩) ∧
    Row W w.heap.size [.int .i64 ((8 * q + r : Nat) : Int)] 58 ∧ Row W (w.heap.size + 1) (idL N) 25 ∧ Row W (w.heap.size + 2) zeros20 25 ∧ Below w.heap.size w W)
  case first =>
    go_wp2
    go_meet
    case rel => exact ⟨rfl, rfl, rfl, ((row_new _ [_] _ _ rfl).alloc _).alloc _, (row_new _ (idL N) _ _ (by simp)).alloc _, row_new _ zeros20 _ _ (by simp), (((Below.refl _ _).alloc (Nat.le_refl _) _).alloc (by simp) _).alloc (by simp; omega) _⟩
  case rest =>
    obtain ⟨rfl, rfl, rfl, r0, r1, r2, hb⟩ := hcut
    obtain ⟨W1, hcl, k1, hg1⟩ := clear_row r1 q hq19
    have k0 := r0.grown hg1 (by simp)
    have k2 := r2.grown hg1 (by simp)
    have hb1 := hb.grown hg1 hb.size (by simp)
    have c0 : wc.cell? ⟨w.heap.size, 0, none⟩ = some (.int .i64 (8 * (q : Int) + r)) := by rw [r0.cell]; simp
    have d0 : W1.cell? ⟨w.heap.size, 0, none⟩ = some (.int .i64 (8 * (q : Int) + r)) := by rw [k0.cell]; simp
    have e1 : (8 * (q : Int) + r) / 8 = q := by omega
    have e2 : (8 * (q : Int) + r) % 8 = r := by omega
    have hsl := slice_to (w.heap.size + 1) q hq19
    have HK1 : Hid _ := k1
    have HK2 : Hid _ := k2
    have HB1 : Hid _ := hb1
    clear r0 r1 r2 hb hg1 k0 k1 k2 hb1
    by_cases hr0 : r = 0
    · have hne : ((r : Int) != 0) = false := by simp; omega
      have K1 : Row W1 (w.heap.size + 1) (idL (N % 2 ^ (160 - (8 * q + r)))) 25 := by
        rw [show 160 - (8 * q + r) = 160 - 8 * q by omega, ← reduce_0 N q hq19]; exact HK1.out
      have K2 : Row W1 (w.heap.size + 2) zeros20 25 := HK2.out
      have KB : Below w.heap.size w W1 := HB1.out
      clear HK1 HK2 HB1 hr0
      obtain ⟨M, hM⟩ : ∃ M, M = N % 2 ^ (160 - (8 * q + r)) := ⟨_, rfl⟩
      rw [← hM] at K1
      have HM : Hid _ := hM
      have hid := id20 M
      clear hM
      go_wp2_with (first
        | refine wpList_load_row rfl 25 _ rfl (w.heap.size + 1) rfl 25 (idL M).toArray (0, 0) _ K1 Try.underlying25 rfl hid.size25 ?_
        | refine wpList_store_row rfl 25 _ _ rfl (w.heap.size + 2) (idL M).toArray rfl rfl 25 _ K2 hid.size25 (by simp [zeros20, hid.1]) hid.all ?_)
      refine bodyPost_ret (v := .agg (idL M).toArray) (results_cell_row Try.results42 _ _ (w.heap.size + 2) 25 (idL M).toArray (0, 0) _ rfl K2.setRow Try.underlying25 rfl hid.size25) rfl ⟨by rw [HM.out], ?_⟩
      exact below_setRow KB (by omega) _
    · have hne : ((r : Int) != 0) = true := by simp; omega
      go_wp2
      have cq : W1.cell? ⟨w.heap.size + 1, q, none⟩ = some (.int .u8 ((byteAt N q : Nat) : Int)) := by
        rw [Row.cell HK1.out, reduce_0 N q hq19, idL_get _ _ (by omega), byteMod_all _ _ _ (by omega)]
      have fq := Row.free HK1.out q
      have t1 : IntKind.i64.wrap ((8 * (q : Int) + r).tdiv 8) = q := by rw [Int.tdiv_eq_ediv_of_nonneg (by omega), wrap_i64 _ (by omega) (by omega)]; omega
      have t2 : (8 * (q : Int) + r).tdiv 8 = q := by rw [Int.tdiv_eq_ediv_of_nonneg (by omega)]; omega
      have q20 : (q : Int) < 20 := by omega
      go_region
      rw [mask_and (byteAt N q) r (byteAt_lt N q) hr8]
      have K1 : Row (W1.setCell ⟨w.heap.size + 1, q, none⟩ (.int .u8 ((byteAt N q % 2 ^ (8 - r) : Nat) : Int))).drew (w.heap.size + 1) (idL (N % 2 ^ (160 - (8 * q + r)))) 25 := by
        rw [← reduce_r N q r hq19 (by omega) hr8]
        exact (Row.setCell HK1.out q _).drew
      have K2 : Row (W1.setCell ⟨w.heap.size + 1, q, none⟩ (.int .u8 ((byteAt N q % 2 ^ (8 - r) : Nat) : Int))).drew (w.heap.size + 2) zeros20 25 :=
        (Row.grown HK2.out (grown_setCell W1 _ _ _) (by simp)).drew
      have KB : Below w.heap.size w (W1.setCell ⟨w.heap.size + 1, q, none⟩ (.int .u8 ((byteAt N q % 2 ^ (8 - r) : Nat) : Int))).drew := (Below.setCell HB1.out (by simp) _).drew
      clear t1 t2 cq fq e1 e2 c0 d0 hcl hsl HK1 HK2 HB1
      generalize (W1.setCell ⟨w.heap.size + 1, q, none⟩ (.int .u8 ((byteAt N q % 2 ^ (8 - r) : Nat) : Int))).drew = W2 at K1 K2 KB ⊢
      obtain ⟨M, hM⟩ : ∃ M, M = N % 2 ^ (160 - (8 * q + r)) := ⟨_, rfl⟩
      rw [← hM] at K1
      have HM : Hid _ := hM
      have hid := id20 M
      clear hM
      go_wp2_with (first
        | refine wpList_load_row rfl 25 _ rfl (w.heap.size + 1) rfl 25 (idL M).toArray (0, 0) _ K1 Try.underlying25 rfl hid.size25 ?_
        | refine wpList_store_row rfl 25 _ _ rfl (w.heap.size + 2) (idL M).toArray rfl rfl 25 _ K2 hid.size25 (by simp [zeros20, hid.1]) hid.all ?_)
      refine bodyPost_ret (v := .agg (idL M).toArray) (results_cell_row Try.results42 _ _ (w.heap.size + 2) 25 (idL M).toArray (0, 0) _ rfl K2.setRow Try.underlying25 rfl hid.size25) rfl ⟨by rw [HM.out], ?_⟩
      exact below_setRow KB (by omega) _
end Go.Proofs.Qxb6614219a
