import Derived.Test.Qxb6614219aBits
import Derived.Test.Qxb6614219aHop
namespace Go.Proofs.Qxb6614219a
open Go.RowKit
set_option linter.unusedSimpArgs false

theorem or_bit64 (V c : Nat) (hV : V < 1152921504606846976) (hc : c < 2) : bits .or .i64 ((V : Int) * 2) (c : Int) = ((V * 2 + c : Nat) : Int) := by
  have := i64_or_nat (V * 2) c (by omega) (by omega)
  rw [nat_join 1 (V * 2) c (by omega) (by omega)] at this
  rw [← this]; simp
theorem shift_step (N p : Nat) : N / 2 ^ (p + 1) * 2 + N / 2 ^ p % 2 = N / 2 ^ p := by
  rw [Nat.pow_succ, ← Nat.div_div_eq_div_mul]; omega

theorem hop_val' (l b V : Nat) (h2 : l ≤ 160) (hb : b ≤ 24) (hV : V < 16777216) : wrap64 (wrap64 ((l : Int) * 2 ^ b) + (V : Int)) = ((l * 2 ^ b + V : Nat) : Int) := by
  have e1 : (2 : Nat) ^ b ≤ 16777216 := by
    have : (2 : Nat) ^ b ≤ 2 ^ 24 := Nat.pow_le_pow_right (by decide) hb
    have e : (2 : Nat) ^ 24 = 16777216 := by decide
    omega
  have e2 : l * 2 ^ b ≤ 160 * 16777216 := Nat.mul_le_mul h2 e1
  have e3 : (l : Int) * 2 ^ b = ((l * 2 ^ b : Nat) : Int) := by
    rw [Int.natCast_mul, Int.natCast_pow]; rfl
  rw [e3]
  generalize l * 2 ^ b = X at e2
  rw [IntWalk.wrap64_in (X : Int) ⟨by omega, by omega⟩, IntWalk.wrap64_in _ ⟨by omega, by omega⟩]
  omega

set_option maxRecDepth 100000 in
set_option maxHeartbeats 1000000 in
theorem model_zero (m b : Nat) (w : World) :
    Calls Try.prog 16 #[.int .i64 m, .int .i64 b, .agg (idL 0).toArray] w fun e w' => e = .returned (.tuple #[.int .i64 0, .bool false]) ∧ Below w.heap.size w w' := by
  go_enter Try.func16, Try.ntmps16
  go_upto_region 0 with fail
  go_cut [5, 6, 7] (fun p x y W => p = .pointer (some ⟨w.heap.size, 0, none⟩) ∧ x = .int .i64 0 ∧ y = .bool false ∧ Row W w.heap.size (idL 0) 22 ∧ Below w.heap.size w W)
  case first =>
    go_wp2
    go_meet
    case rel => exact ⟨rfl, rfl, rfl, row_new _ (idL 0) _ _ rfl, (Below.refl _ _).alloc (Nat.le_refl _) _⟩
  case rest =>
    obtain ⟨rfl, rfl, rfl, r0, hb⟩ := hcut
    go_wp2_with (first
      | refine wpList_load_row rfl 22 (.tmp 5) rfl w.heap.size rfl 22 (idL 0).toArray (0, 0) _ r0 Try.underlying22 rfl (id20 0).size22 ?_
      | (go_at_call 31; refine (ztop_any 0 _ (by decide)).mono ?_; rintro e w1 ⟨rfl, hw1⟩; rw [show topI 0 = -1 by rfl]))
    go_ret2
    exact ⟨rfl, hb.trans (hw1.mono hb.size)⟩

set_option maxRecDepth 100000 in
set_option maxHeartbeats 2000000 in
theorem model_any (m b N : Nat) (w : World) (hm1 : 1 ≤ m) (hm : m ≤ 160) (hb1 : 1 ≤ b) (hb2 : b ≤ 24) (h0 : N ≠ 0) (hN : N < 2 ^ m) :
    Calls Try.prog 16 #[.int .i64 m, .int .i64 b, .agg (idL N).toArray] w fun e w' => e = .returned (.tuple #[.int .i64 (hopI m b N : Nat), .bool (hopOk m b N)]) ∧ Below w.heap.size w w' := by
  have hN160 : N < 2 ^ 160 := Nat.lt_of_lt_of_le hN (Nat.pow_le_pow_right (by decide) hm)
  have hpm := log2_lt_m h0 hN
  obtain ⟨p, hp⟩ : ∃ p, p = N.log2 := ⟨_, rfl⟩
  rw [← hp] at hpm
  have htop : topI N = (p : Int) := by unfold topI; rw [if_neg h0, hp]
  obtain ⟨L1, hL1⟩ : ∃ L1, L1 = (m - 1 - p) / b := ⟨_, rfl⟩
  have hlev : lev m b N = L1 + 1 := by unfold lev; rw [← hp, ← hL1]
  have hL1b : L1 ≤ 160 := by rw [hL1]; exact Nat.le_trans (Nat.div_le_self _ _) (by omega)
  have hdiv : ((m : Int) - 1 - (p : Int)) / (b : Int) = (L1 : Int) := by
    rw [hL1, Int.natCast_ediv]; congr 1; omega
  obtain ⟨Lv, hLv⟩ : ∃ Lv, m / b = Lv := ⟨_, rfl⟩
  have hLv1 : Lv ≤ 160 := by rw [← hLv]; exact Nat.le_trans (Nat.div_le_self _ _) hm
  have hLvb : Lv * b ≤ m := by rw [← hLv]; exact Nat.div_mul_le_self _ _
  have hdiv2 : (m : Int) / (b : Int) = (Lv : Int) := by rw [← hLv, Int.natCast_ediv]
  have HLV : Hid _ := hLv
  have HLEV : Hid _ := hlev
  have HTOP : Hid _ := htop
  have HN : Hid _ := hN160
  have HNm : Hid _ := hN
  have HP : Hid _ := hp
  clear hLv hlev htop hN160 hN hp hL1
  have hbp : (0 : Int) < b := by omega
  go_enter Try.func16, Try.ntmps16
  go_upto_region 0 with fail
  go_cut [5, 6, 7] (fun p x y W => p = .pointer (some ⟨w.heap.size, 0, none⟩) ∧ x = .int .i64 0 ∧ y = .bool false ∧ Row W w.heap.size (idL N) 22 ∧ Below w.heap.size w W)
  case first =>
    go_wp2
    go_meet
    case rel => exact ⟨rfl, rfl, rfl, row_new _ (idL N) _ _ rfl, (Below.refl _ _).alloc (Nat.le_refl _) _⟩
  case rest =>
    obtain ⟨rfl, rfl, rfl, r0, hb⟩ := hcut
    by_cases hle : L1 + 1 ≤ Lv
    · obtain ⟨lb, hlb⟩ : ∃ lb, lb = (L1 + 1) * b := ⟨_, rfl⟩
      have hlbm : lb ≤ m := by rw [hlb]; exact Nat.le_trans (Nat.mul_le_mul_right b hle) hLvb
      have hmul : ((L1 : Int) + 1) * (b : Int) = (lb : Int) := by rw [hlb]; simp
      obtain ⟨base, hbase⟩ : ∃ base, base = m - lb := ⟨_, rfl⟩
      have hsub : (m : Int) - (lb : Int) = (base : Int) := by omega
      have hdig := digit_at hb1 h0 HNm.out (by rw [HLEV.out, HLV.out]; exact hle)
      rw [HLEV.out, ← hlb, ← hbase] at hdig
      have hbp2 : base ≤ p := by
        have h1 : 2 ^ base ≤ N := Nat.le_of_not_lt (fun h => by rw [Nat.div_eq_of_lt h] at hdig; omega)
        have := (Nat.le_log2 h0).2 h1
        rw [← HP.out] at this; exact this
      have hV24 : N / 2 ^ base < 16777216 := by
        have : (2 : Nat) ^ b ≤ 2 ^ 24 := Nat.pow_le_pow_right (by decide) hb2
        have e : (2 : Nat) ^ 24 = 16777216 := by decide
        omega
      have HLB : Hid _ := hlb
      have HBASE : Hid _ := hbase
      have HDIG : Hid _ := hdig
      have HV24 : Hid _ := hV24
      clear hlb hbase hdig hV24
      go_wp2_with (first
        | refine wpList_load_row rfl 22 (.tmp 5) rfl w.heap.size rfl 22 (idL N).toArray (0, 0) _ r0 Try.underlying22 rfl (id20 N).size22 ?_
        | (go_at_call 31; refine (ztop_any N _ HN.out).mono ?_; rintro e w1 ⟨rfl, hw1⟩; rw [HTOP.out]))
      have r1 := r0.below hw1 r0.lt
      have hb3 := hb.trans (hw1.mono hb.size)
      clear hdiv hdiv2 hmul hsub r0 hb hw1
      go_loopw [11, 12] (fun v t wr => ∃ k : Nat, k ≤ p + 1 - base ∧ t = .int .i64 ((p : Int) - k) ∧ v = .int .i64 ((N / 2 ^ (p + 1 - k) : Nat) : Int) ∧ Row wr w.heap.size (idL N) 22 ∧ Below w.heap.size w wr) (fun _ t _ => (intOf t - base + 1).toNat)
      case atStart =>
        refine ⟨0, by omega, by go_num, ?_, r1, hb3⟩
        rw [Nat.sub_zero, Nat.div_eq_of_lt (by rw [HP.out]; exact (Nat.log2_lt h0).1 (Nat.lt_succ_self _))]; rfl
      case round =>
        clear r1 hb3
        obtain ⟨k, hk, rfl, rfl, r0, hb⟩ := hrel
        by_cases hlt : k < p + 1 - base
        · obtain ⟨q, hq⟩ : ∃ q : Nat, (p : Int) - k = q := ⟨p - k, by omega⟩
          obtain ⟨V, hV⟩ : ∃ V : Nat, V = N / 2 ^ (p + 1 - k) := ⟨_, rfl⟩
          obtain ⟨c, hc⟩ : ∃ c : Nat, N / 2 ^ q % 2 = c := ⟨_, rfl⟩
          have hc2 : c < 2 := by rw [← hc]; exact Nat.mod_lt _ (by decide)
          have hV2 : (V : Int) < 16777216 := by
            have h1 : N / 2 ^ (p + 1 - k) ≤ N / 2 ^ base := Nat.div_le_div_left (Nat.pow_le_pow_right (by decide) (by omega)) (Nat.two_pow_pos _)
            have := HV24.out
            rw [hV]; omega
          have hq1 : (base : Int) ≤ q := by omega
          have hq2 : q < 160 := by omega
          rw [hq, ← hV]
          have HQ : Hid _ := hq
          have HV : Hid _ := hV
          have HC : Hid _ := hc
          clear hq hV hc
          go_wp2_with (first
            | refine wpList_load_row rfl 22 (.tmp 5) rfl w.heap.size rfl 22 (idL N).toArray (0, 0) _ r0 Try.underlying22 rfl (id20 N).size22 ?_
            | (go_at_call 32; refine (zbitV N q c _ hq2 HC.out).mono ?_; rintro e w2 ⟨rfl, hw2⟩))
          go_roundw
          case rel =>
            have hq := HQ.out
            refine ⟨k + 1, by omega, by go_num, ?_, r0.below hw2 r0.lt, hb.trans (hw2.mono hb.size)⟩
            rw [or_bit64 V c (by omega) hc2, HV.out, ← HC.out, show p + 1 - k = q + 1 by omega, shift_step, show p + 1 - (k + 1) = q by omega]
          case measure => simp [intOf]; omega
        · have hk' : k = p + 1 - base := by omega
          obtain ⟨V, hV⟩ : ∃ V : Nat, V = N / 2 ^ (p + 1 - k) := ⟨_, rfl⟩
          have hVb : V = N / 2 ^ base := by rw [hV, show p + 1 - k = base by omega]
          have hV2 : (V : Int) < 16777216 := by have := HV24.out; rw [hVb]; omega
          rw [← hV]
          have HVB : Hid _ := hVb
          have HK : Hid _ := hk'
          have hge : ¬ (base : Int) ≤ (p : Int) - k := by omega
          clear hV hVb hk'
          go_wp2
          go_ret2
          refine ⟨?_, hb⟩
          obtain ⟨e1, e2⟩ := hop_some (m := m) (b := b) (D := N) h0 (by rw [HLEV.out, HLV.out]; exact hle)
          rw [e1, e2, HLEV.out, ← HLB.out, ← HBASE.out, ← HVB.out]
          show Ending.returned (.tuple #[.int .i64 (wrap64 (wrap64 ((L1 : Int) * 2 ^ b) + (V : Int))), .bool true]) = _
          rw [hop_val' L1 b V hL1b hb2 (by omega)]; rfl
    · go_wp2_with (first
        | refine wpList_load_row rfl 22 (.tmp 5) rfl w.heap.size rfl 22 (idL N).toArray (0, 0) _ r0 Try.underlying22 rfl (id20 N).size22 ?_
        | (go_at_call 31; refine (ztop_any N _ HN.out).mono ?_; rintro e w1 ⟨rfl, hw1⟩; rw [HTOP.out]))
      go_ret2
      refine ⟨?_, hb.trans (hw1.mono hb.size)⟩
      obtain ⟨e1, e2⟩ := hop_none (m := m) (b := b) (D := N) (by rw [HLEV.out, HLV.out]; omega)
      rw [e1, e2]; rfl

/-- zzHopModel, at every distance. -/
theorem model_all (m b N : Nat) (w : World) (hm1 : 1 ≤ m) (hm : m ≤ 160) (hb1 : 1 ≤ b) (hb2 : b ≤ 24) (hN : N < 2 ^ m) :
    Calls Try.prog 16 #[.int .i64 m, .int .i64 b, .agg (idL N).toArray] w fun e w' => e = .returned (.tuple #[.int .i64 (hopI m b N : Nat), .bool (hopOk m b N)]) ∧ Below w.heap.size w w' := by
  by_cases h0 : N = 0
  · subst h0
    obtain ⟨e1, e2⟩ := hop_none (m := m) (b := b) (D := 0) (.inl rfl)
    rw [e1, e2]
    exact model_zero m b w
  · exact model_any m b N w hm1 hm hb1 hb2 h0 hN
end Go.Proofs.Qxb6614219a
