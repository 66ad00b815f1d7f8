import Derived.Test.Qxb6614219aReduce
namespace Go.Proofs.Qxb6614219a
open Go.RowKit
set_option linter.unusedSimpArgs false

theorem ofInt_64 (a : Nat) (ha : a < 9223372036854775808) : (BitVec.ofInt 64 (a : Int)).toNat = a := by
  rw [BitVec.ofInt_natCast, BitVec.toNat_ofNat]; exact Nat.mod_eq_of_lt (by omega)
theorem i64_and_nat (a b : Nat) (ha : a < 9223372036854775808) (hb : b < 9223372036854775808) : bits .and .i64 (a : Int) (b : Int) = ((a &&& b : Nat) : Int) := by
  have hx : a &&& b < 2 ^ 63 := Nat.and_lt_two_pow _ (by omega)
  show IntKind.i64.wrap ((BitVec.ofInt 64 (a : Int) &&& BitVec.ofInt 64 (b : Int)).toNat : Int) = _
  rw [BitVec.toNat_and, ofInt_64 a ha, ofInt_64 b hb, IntKind.wrap_i64]
  omega
theorem i64_or_nat (a b : Nat) (ha : a < 9223372036854775808) (hb : b < 9223372036854775808) : bits .or .i64 (a : Int) (b : Int) = ((a ||| b : Nat) : Int) := by
  have hx : a ||| b < 2 ^ 63 := Nat.or_lt_two_pow (by omega) (by omega)
  show IntKind.i64.wrap ((BitVec.ofInt 64 (a : Int) ||| BitVec.ofInt 64 (b : Int)).toNat : Int) = _
  rw [BitVec.toNat_or, ofInt_64 a ha, ofInt_64 b hb, IntKind.wrap_i64]
  omega

theorem bit_val (y j : Nat) (hy : y < 256) : bits .and .i64 (wrap64 ((y : Int) / 2 ^ j)) 1 = ((y / 2 ^ j % 2 : Nat) : Int) := by
  have h : y / 2 ^ j < 256 := Nat.lt_of_le_of_lt (Nat.div_le_self _ _) hy
  have e : (y : Int) / 2 ^ j = ((y / 2 ^ j : Nat) : Int) := by simp
  rw [e]
  generalize y / 2 ^ j = z at h
  rw [IntWalk.wrap64_in _ ⟨by omega, by omega⟩]
  have := i64_and_nat z 1 (by omega) (by decide)
  rw [nat_mask1] at this
  exact this

set_option maxHeartbeats 400000 in
/-- zzBit. -/
theorem zbit_any (N q : Nat) (w : World) (hq : q < 160) :
    Calls Try.prog 32 #[.agg (idL N).toArray, .int .i64 q] w fun e w' => e = .returned (.int .i64 ((N / 2 ^ q % 2 : Nat) : Int)) ∧ Below w.heap.size w w' := by
  have hq' : (q : Int) < 160 := by omega
  go_enter Try.func32, Try.ntmps32
  go_upto_region 0 with fail
  go_cut [2, 4] (fun p x W => p = .pointer (some ⟨w.heap.size, 0, none⟩) ∧ x = .int .i64 0 ∧ Row W w.heap.size (idL N) 22 ∧ Below w.heap.size w W)
  case first =>
    go_wp2
    go_meet
    case rel => exact ⟨rfl, rfl, row_new _ (idL N) _ _ rfl, (Below.refl _ _).alloc (Nat.le_refl _) _⟩
  case rest =>
    obtain ⟨rfl, rfl, r0, hb⟩ := hcut
    obtain ⟨y, hy⟩ : ∃ y : Nat, y = byteAt N (19 - q / 8) := ⟨_, rfl⟩
    have hc : wc.cell? ⟨w.heap.size, 19 - q / 8, none⟩ = some (.int .u8 (y : Int)) := by rw [idL_cell r0 _ (by omega), hy]
    have hy2 : (y : Int) < 256 := by rw [hy]; unfold byteAt; omega
    have HY : Hid _ := hy
    clear hy r0
    go_wp2
    go_ret
    refine ⟨?_, hb⟩
    show Ending.returned (.int .i64 (bits BinOp.and IntKind.i64 (wrap64 ((y : Int) / 2 ^ (q % 8))) 1)) = _
    rw [bit_val y (q % 8) (by omega), HY.out, bit_byte N q hq]

theorem zbitV (N q V : Nat) (w : World) (hq : q < 160) (hV : N / 2 ^ q % 2 = V) :
    Calls Try.prog 32 #[.agg (idL N).toArray, .int .i64 q] w fun e w' => e = .returned (.int .i64 (V : Int)) ∧ Below w.heap.size w w' := by
  rw [← hV]; exact zbit_any N q w hq

/-- The bit below the bound. -/
theorem top_bit {N q : Nat} (h : N < 2 ^ (q + 1)) : N / 2 ^ q % 2 = if N < 2 ^ q then 0 else 1 := by
  rw [Nat.pow_succ] at h
  split
  · rename_i h1; rw [Nat.div_eq_of_lt h1]
  · rename_i h1
    have : N / 2 ^ q = 1 := by
      apply Nat.div_eq_of_lt_le <;> omega
    rw [this]

/-- zzTop's answer. -/
def topI (N : Nat) : Int := if N = 0 then -1 else (N.log2 : Int)
theorem topI_at {N q : Nat} (h1 : N < 2 ^ (q + 1)) (h2 : ¬ N < 2 ^ q) : topI N = q := by
  have h0 : N ≠ 0 := by intro h; rw [h] at h2; exact h2 (Nat.two_pow_pos q)
  unfold topI
  rw [if_neg h0]
  have : N.log2 = q := by
    have a := (Nat.log2_lt h0).2 h1
    have b := (Nat.le_log2 h0).2 (Nat.le_of_not_lt h2)
    omega
  rw [this]

set_option maxRecDepth 100000 in
set_option maxHeartbeats 1000000 in
/-- zzTop. -/
theorem ztop_any (N : Nat) (w : World) (hN : N < 2 ^ 160) :
    Calls Try.prog 31 #[.agg (idL N).toArray] w fun e w' => e = .returned (.int .i64 (topI N)) ∧ Below w.heap.size w w' := by
  go_enter Try.func31, Try.ntmps31
  go_upto_region 0 with fail
  go_cut [1, 2] (fun p x W => p = .pointer (some ⟨w.heap.size, 0, none⟩) ∧ x = .int .i64 0 ∧ Row W w.heap.size (idL N) 22 ∧ Below w.heap.size w W)
  case first =>
    go_wp2
    go_meet
    case rel => exact ⟨rfl, rfl, row_new _ (idL N) _ _ rfl, (Below.refl _ _).alloc (Nat.le_refl _) _⟩
  case rest =>
    obtain ⟨rfl, rfl, r0, hb⟩ := hcut
    have HN : Hid _ := hN
    clear hN
    go_wp2
    go_loopw [3] (fun t wr => ∃ q : Nat, q ≤ 160 ∧ t = .int .i64 ((q : Int) - 1) ∧ Hid (N < 2 ^ q) ∧ Row wr w.heap.size (idL N) 22 ∧ Below w.heap.size w wr) (fun t _ => (intOf t + 1).toNat)
    case atStart => exact ⟨160, by omega, by go_num, HN, r0, hb⟩
    case round =>
      clear r0 hb
      obtain ⟨q, hq, rfl, HQ, r0, hb⟩ := hrel
      by_cases h0 : q = 0
      · subst h0
        go_wp2
        go_ret
        refine ⟨?_, hb⟩
        have : N = 0 := by have := HQ.out; simp at this; exact this
        subst this; rfl
      · obtain ⟨p, rfl⟩ : ∃ p, q = p + 1 := ⟨q - 1, by omega⟩
        have ep : (((p + 1 : Nat) : Int) - 1) = (p : Int) := by omega
        rw [ep]
        clear ep h0
        have htb := top_bit HQ.out
        by_cases hlt : N < 2 ^ p
        · rw [if_pos hlt] at htb
          have HLT : Hid _ := hlt
          have HTB : Hid _ := htb
          clear hlt htb
          go_wp2_with (first
            | refine wpList_load_row rfl 22 (.tmp 1) rfl w.heap.size rfl 22 (idL N).toArray (0, 0) _ r0 Try.underlying22 rfl (id20 N).size22 ?_
            | (go_at_call 32; refine (zbitV N p 0 _ (by omega) HTB.out).mono ?_; rintro e w1 ⟨rfl, hw1⟩))
          go_roundw
          case rel => exact ⟨p, by omega, by go_num, HLT, r0.below hw1 r0.lt, hb.trans (hw1.mono hb.size)⟩
          case measure => simp [intOf]
        · rw [if_neg hlt] at htb
          have HLT : Hid _ := topI_at HQ.out hlt
          have HTB : Hid _ := htb
          clear hlt htb
          go_wp2_with (first
            | refine wpList_load_row rfl 22 (.tmp 1) rfl w.heap.size rfl 22 (idL N).toArray (0, 0) _ r0 Try.underlying22 rfl (id20 N).size22 ?_
            | (go_at_call 32; refine (zbitV N p 1 _ (by omega) HTB.out).mono ?_; rintro e w1 ⟨rfl, hw1⟩))
          go_ret
          refine ⟨?_, hb.trans (hw1.mono hb.size)⟩
          rw [HLT.out]; rfl

/-- The bits from e on below q are 0: one more. -/
theorem below_step0 {N e q : Nat} (h : N % 2 ^ q < 2 ^ e) (hb : N / 2 ^ q % 2 = 0) : N % 2 ^ (q + 1) < 2 ^ e := by
  rw [Nat.pow_succ, Nat.mod_mul, hb]; simpa using h
theorem below_bit {N e q : Nat} (he : e ≤ q) (hb : ¬ N / 2 ^ q % 2 = 0) : ¬ N < 2 ^ e := by
  intro h
  have : N < 2 ^ q := Nat.lt_of_lt_of_le h (Nat.pow_le_pow_right (by decide) he)
  rw [Nat.div_eq_of_lt this] at hb; simp at hb

set_option maxRecDepth 100000 in
set_option maxHeartbeats 1000000 in
/-- zzBelow. -/
theorem zbelow_any (N e : Nat) (w : World) (hN : N < 2 ^ 160) (he : e ≤ 160) :
    Calls Try.prog 19 #[.agg (idL N).toArray, .int .i64 e] w fun x w' => x = .returned (.bool (decide (N < 2 ^ e))) ∧ Below w.heap.size w w' := by
  go_enter Try.func19, Try.ntmps19
  go_upto_region 0 with fail
  go_cut [2, 4] (fun p x W => p = .pointer (some ⟨w.heap.size, 0, none⟩) ∧ x = .bool false ∧ Row W w.heap.size (idL N) 22 ∧ Below w.heap.size w W)
  case first =>
    go_wp2
    go_meet
    case rel => exact ⟨rfl, rfl, row_new _ (idL N) _ _ rfl, (Below.refl _ _).alloc (Nat.le_refl _) _⟩
  case rest =>
    obtain ⟨rfl, rfl, r0, hb⟩ := hcut
    have HN : Hid _ := hN
    have HS : Hid (N % 2 ^ e < 2 ^ e) := Nat.mod_lt _ (Nat.two_pow_pos e)
    clear hN
    go_wp2
    go_loopw [5] (fun t wr => ∃ q : Nat, e ≤ q ∧ q ≤ 160 ∧ t = .int .i64 (q : Int) ∧ Hid (N % 2 ^ q < 2 ^ e) ∧ Row wr w.heap.size (idL N) 22 ∧ Below w.heap.size w wr) (fun t _ => 160 - (intOf t).toNat)
    case atStart => exact ⟨e, Nat.le_refl _, he, rfl, HS, r0, hb⟩
    case round =>
      clear r0 hb HS
      obtain ⟨q, heq, hq, rfl, HQ, r0, hb⟩ := hrel
      by_cases h0 : q < 160
      · by_cases hbit : N / 2 ^ q % 2 = 0
        · have HB : Hid _ := hbit
          clear hbit
          go_wp2_with (first
            | refine wpList_load_row rfl 22 (.tmp 2) rfl w.heap.size rfl 22 (idL N).toArray (0, 0) _ r0 Try.underlying22 rfl (id20 N).size22 ?_
            | (go_at_call 32; refine (zbitV N q 0 _ h0 HB.out).mono ?_; rintro x w1 ⟨rfl, hw1⟩))
          go_roundw
          case rel => exact ⟨q + 1, by omega, by omega, by go_num, below_step0 HQ.out HB.out, r0.below hw1 r0.lt, hb.trans (hw1.mono hb.size)⟩
          case measure => simp [intOf]; omega
        · have HB : Hid (N / 2 ^ q % 2 = 1) := by show N / 2 ^ q % 2 = 1; omega
          have HF : Hid _ := below_bit heq hbit
          clear hbit
          go_wp2_with (first
            | refine wpList_load_row rfl 22 (.tmp 2) rfl w.heap.size rfl 22 (idL N).toArray (0, 0) _ r0 Try.underlying22 rfl (id20 N).size22 ?_
            | (go_at_call 32; refine (zbitV N q 1 _ h0 HB.out).mono ?_; rintro x w1 ⟨rfl, hw1⟩))
          go_ret
          refine ⟨?_, hb.trans (hw1.mono hb.size)⟩
          rw [decide_eq_false HF.out]; rfl
      · have HF : Hid (N < 2 ^ e) := by
          have h1 := HQ.out
          rw [show q = 160 by omega, Nat.mod_eq_of_lt HN.out] at h1; exact h1
        go_wp2
        go_ret
        refine ⟨?_, hb⟩
        rw [decide_eq_true HF.out]; rfl
end Go.Proofs.Qxb6614219a
