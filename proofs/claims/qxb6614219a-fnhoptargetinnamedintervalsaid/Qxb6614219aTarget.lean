import Derived.Test.Qxb6614219aZhop
import Derived.Test.Qxb6614219aModel
import Derived.Test.Qxb6614219aDist
import Derived.Test.Qxb6614219aInterval
import Derived.Test.Qxb6614219aShift
namespace Go.Proofs.Qxb6614219a
open Go.RowKit
set_option linter.unusedSimpArgs false
set_option linter.unusedVariables false

/-- A fact the walk is not to see. -/
structure Kept (p : Prop) : Prop where
  out : p

theorem u64_in (V : Nat) (h : V < 18446744073709551616) : IntKind.u64.wrap (V : Int) = (V : Int) := by
  have e : IntKind.u64.wrap (V : Int) = (V : Int) % 18446744073709551616 := rfl
  omega
theorem dig_val (I b V : Nat) (hI : I < 9223372036854775808) (h2b : 2 ^ b ≤ 16777216) (hm : I % 2 ^ b = V) :
    bits .and .i64 (I : Int) (wrap64 (wrap64 ((2 : Int) ^ b) - 1)) = (V : Int) := by
  have hpos : 0 < (2 : Nat) ^ b := Nat.two_pow_pos b
  have e : ((2 : Int) ^ b) = ((2 ^ b : Nat) : Int) := by simp
  have e1 : wrap64 ((2 ^ b : Nat) : Int) = ((2 ^ b : Nat) : Int) := IntWalk.wrap64_in _ ⟨by omega, by omega⟩
  have e2 : (((2 ^ b : Nat) : Int) - 1) = ((2 ^ b - 1 : Nat) : Int) := by omega
  have e3 : wrap64 ((2 ^ b - 1 : Nat) : Int) = ((2 ^ b - 1 : Nat) : Int) := IntWalk.wrap64_in _ ⟨by omega, by omega⟩
  rw [e, e1, e2, e3, i64_and_nat _ _ hI (by omega), Nat.and_two_pow_sub_one_eq_mod, hm]
theorem idL_zero : idL 0 = zeros20 := by
  simp [idL, zeros20, byteAt, List.range_succ, List.replicate]
theorem zbelowV (N e : Nat) (c : Bool) (w : World) (hN : N < 2 ^ 160) (he : e ≤ 160) (hc : decide (N < 2 ^ e) = c) :
    Calls Try.prog 19 #[.agg (idL N).toArray, .int .i64 e] w fun x w' => x = .returned (.bool c) ∧ Below w.heap.size w w' := by
  rw [← hc]; exact zbelow_any N e w hN he

set_option maxRecDepth 100000 in
set_option maxHeartbeats 1000000 in
/-- The early ways out. -/
theorem target_out (x y : Int) (A B : Nat) (w : World) (h : ¬ (0 ≤ x ∧ x ≤ 159 ∧ 1 ≤ y ∧ y ≤ 24)) :
    Calls Try.prog 7 #[.int .i64 x, .int .i64 y, .agg (idL A).toArray, .agg (idL B).toArray] w fun e w' => e = .returned (.bool true) ∧ Below w.heap.size w w' := by
  have hB : ∀ (a b : Obj), Below w.heap.size w ((w.alloc a).alloc b) := fun a b => ((Below.refl _ _).alloc (Nat.le_refl _) _).alloc (by simp) _
  by_cases g1 : x < 0
  · clear h
    go_enter Try.func7, Try.ntmps7
    go_wp2
    go_ret
    exact ⟨rfl, hB _ _⟩
  by_cases g2 : 159 < x
  · clear h
    go_enter Try.func7, Try.ntmps7
    go_wp2
    go_ret
    exact ⟨rfl, hB _ _⟩
  by_cases g3 : y < 1
  · clear h
    go_enter Try.func7, Try.ntmps7
    go_wp2
    go_ret
    exact ⟨rfl, hB _ _⟩
  · have g4 : 24 < y := by omega
    clear h
    go_enter Try.func7, Try.ntmps7
    go_wp2
    go_ret
    exact ⟨rfl, hB _ _⟩

set_option maxRecDepth 100000 in
set_option maxHeartbeats 2000000 in
/-- hop refuses. -/
theorem target_no (u b S T : Nat) (w : World) (hu : u ≤ 159) (hb1 : 1 ≤ b) (hb2 : b ≤ 24) (hlow : ringN u T S < 2 ^ (160 - u - (160 - u) / b * b)) :
    Calls Try.prog 7 #[.int .i64 u, .int .i64 b, .agg (idL S).toArray, .agg (idL T).toArray] w fun e w' => e = .returned (.bool true) ∧ Below w.heap.size w w' := by
  obtain ⟨m, hm⟩ : ∃ m, m = 160 - u := ⟨_, rfl⟩
  have hmi : 160 - (u : Int) = (m : Int) := by omega
  have hm1 : 1 ≤ m := by omega
  have hm2 : m ≤ 160 := by omega
  obtain ⟨D, hDe⟩ : ∃ D, D = ringN u T S := ⟨_, rfl⟩
  have hD : D < 2 ^ m := by rw [hDe, hm]; exact Nat.mod_lt _ (Nat.two_pow_pos _)
  have hD160 : D < 2 ^ 160 := Nat.lt_of_lt_of_le hD (Nat.pow_le_pow_right (by decide) hm2)
  obtain ⟨Lv, hLv⟩ : ∃ Lv, m / b = Lv := ⟨_, rfl⟩
  have hLv1 : Lv ≤ 160 := by rw [← hLv]; exact Nat.le_trans (Nat.div_le_self _ _) hm2
  have hdiv2 : (m : Int) / (b : Int) = (Lv : Int) := by rw [← hLv, Int.natCast_ediv]
  obtain ⟨lvb, hlvb⟩ : ∃ lvb, lvb = Lv * b := ⟨_, rfl⟩
  have hlvbm : lvb ≤ m := by rw [hlvb, ← hLv]; exact Nat.div_mul_le_self _ _
  have hmul : (Lv : Int) * (b : Int) = (lvb : Int) := by rw [hlvb]; simp
  obtain ⟨base, hbase⟩ : ∃ base, base = m - lvb := ⟨_, rfl⟩
  have hsub : (m : Int) - (lvb : Int) = (base : Int) := by omega
  have hbase2 : base ≤ 160 := by omega
  have hu' : (u : Int) ≤ 159 := by omega
  have hb1' : (1 : Int) ≤ b := by omega
  have hb2' : (b : Int) ≤ 24 := by omega
  have c1 : ∀ W, Calls Try.prog 17 #[.agg (idL T).toArray, .agg (idL S).toArray, .int .i64 (m : Int)] W fun e w' => e = .returned (.agg (idL D).toArray) ∧ Below W.heap.size W w' := fun W => by
    rw [hDe]; unfold ringN; rw [← hm]; exact dist_any T S m W hm2
  have c3 : ∀ W, Calls Try.prog 18 #[.int .i64 u, .int .i64 b, .agg (idL S).toArray, .agg (idL T).toArray] W fun e w' => e = .returned (.tuple #[.int .i64 (hopI m b D : Nat), .bool (hopOk m b D)]) ∧ Below W.heap.size W w' := fun W => by
    rw [hDe, hm]; exact zhop_any u b S T W hu hb1 hb2
  rw [← hm, ← hDe, hLv, ← hlvb, ← hbase] at hlow
  obtain ⟨e1, e2⟩ := hop_none (ok_of_below hb1 hD (by rw [hLv, ← hlvb, ← hbase]; exact hlow))
  rw [e1, e2] at c3
  have HB : Hid (decide (D < 2 ^ base) = true) := decide_eq_true hlow
  have HD : Hid _ := hD160
  clear hlow hD hD160 hm hDe hLv hlvb hbase e1 e2
  have C1 : Hid _ := c1
  have C3 : Hid _ := c3
  clear c1 c3
  go_enter Try.func7, Try.ntmps7
  go_upto_region 0 with fail
  go_cut [6, 7, 8] (fun p q x W => p = .pointer (some ⟨w.heap.size, 0, none⟩) ∧ q = .pointer (some ⟨w.heap.size + 1, 0, none⟩) ∧ x = .bool false ∧
    Row W w.heap.size (idL S) 22 ∧ Row W (w.heap.size + 1) (idL T) 22 ∧ Below w.heap.size w W)
  case first =>
    go_wp2
    go_meet
    case rel => exact ⟨rfl, rfl, rfl, (row_new _ (idL S) _ _ rfl).alloc _, row_new _ (idL T) _ _ (by simp), ((Below.refl _ _).alloc (Nat.le_refl _) _).alloc (by simp) _⟩
  case rest =>
    obtain ⟨rfl, rfl, rfl, r0, r1, hb⟩ := hcut
    go_upto_region 7 with fail
    go_cut [11] (fun p W => ∃ G, p = .pointer (some ⟨G, 0, none⟩) ∧ Row W G (idL D) 22 ∧ Row W w.heap.size (idL S) 22 ∧ Row W (w.heap.size + 1) (idL T) 22 ∧ Below w.heap.size w W)
    case first =>
      have hid := id20 D
      go_wp2_with (first
        | refine wpList_load_row rfl 22 (.tmp 6) rfl w.heap.size rfl 22 (idL S).toArray (0, 0) _ r0 Try.underlying22 rfl (id20 S).size22 ?_
        | refine wpList_load_row rfl 22 (.tmp 7) rfl (w.heap.size + 1) rfl 22 (idL T).toArray (0, 0) _ r1 Try.underlying22 rfl (id20 T).size22 ?_
        | (go_at_call 17; refine (C1.out _).mono ?_; rintro e w1 ⟨rfl, hw1⟩)
        | refine wpList_store_row rfl 22 _ _ rfl w1.heap.size (idL D).toArray rfl rfl 22 _ (row_new w1 zeros20 22 _ rfl) hid.size22 (by simp [zeros20, hid.1]) hid.all ?_)
      go_meet
      case rel =>
        have q0 := r0.below hw1 r0.lt
        have q1 := r1.below hw1 r1.lt
        have hb1 := hb.trans (hw1.mono hb.size)
        exact ⟨_, rfl, (row_new w1 zeros20 22 _ rfl).setRow, (q0.alloc _).setRow_other _ (Nat.ne_of_lt q0.lt), (q1.alloc _).setRow_other _ (Nat.ne_of_lt q1.lt), below_setRow (hb1.alloc hb1.size _) hb1.size _⟩
    case rest =>
      clear r0 r1 hb
      obtain ⟨G, rfl, rD, r0, r1, hb⟩ := hcut
      go_upto_region 9 with (first
        | refine wpList_load_row rfl 22 (.tmp 6) rfl w.heap.size rfl 22 (idL S).toArray (0, 0) _ r0 Try.underlying22 rfl (id20 S).size22 ?_
        | refine wpList_load_row rfl 22 (.tmp 7) rfl (w.heap.size + 1) rfl 22 (idL T).toArray (0, 0) _ r1 Try.underlying22 rfl (id20 T).size22 ?_
        | (go_at_call 18; refine (C3.out _).mono ?_; rintro e w2 ⟨rfl, hw2⟩))
      have qD := rD.below hw2 rD.lt
      have q0 := r0.below hw2 r0.lt
      have q1 := r1.below hw2 r1.lt
      have hb2 := hb.trans (hw2.mono hb.size)
      clear rD r0 r1 hb hw2
      go_wp2_with (first
        | refine wpList_load_row rfl 22 (.tmp 11) rfl G rfl 22 (idL D).toArray (0, 0) _ qD Try.underlying22 rfl (id20 D).size22 ?_
        | (go_at_call 19; refine (zbelowV D base true _ HD.out hbase2 HB.out).mono ?_; rintro e w3 ⟨rfl, hw3⟩))
      go_ret
      exact ⟨rfl, hb2.trans (hw3.mono hb2.size)⟩

set_option maxRecDepth 100000 in
set_option maxHeartbeats 4000000 in
/-- hop accepts. -/
theorem target_yes (u b S T : Nat) (w : World) (hu : u ≤ 159) (hb1 : 1 ≤ b) (hb2 : b ≤ 24) (hlow : ¬ ringN u T S < 2 ^ (160 - u - (160 - u) / b * b)) :
    Calls Try.prog 7 #[.int .i64 u, .int .i64 b, .agg (idL S).toArray, .agg (idL T).toArray] w fun e w' => e = .returned (.bool true) ∧ Below w.heap.size w w' := by
  obtain ⟨m, hm⟩ : ∃ m, m = 160 - u := ⟨_, rfl⟩
  have hmi : 160 - (u : Int) = (m : Int) := by omega
  have hm1 : 1 ≤ m := by omega
  have hm2 : m ≤ 160 := by omega
  obtain ⟨D, hDe⟩ : ∃ D, D = ringN u T S := ⟨_, rfl⟩
  have hD : D < 2 ^ m := by rw [hDe, hm]; exact Nat.mod_lt _ (Nat.two_pow_pos _)
  have hD160 : D < 2 ^ 160 := Nat.lt_of_lt_of_le hD (Nat.pow_le_pow_right (by decide) hm2)
  obtain ⟨Lv, hLv⟩ : ∃ Lv, m / b = Lv := ⟨_, rfl⟩
  have hLv1 : Lv ≤ 160 := by rw [← hLv]; exact Nat.le_trans (Nat.div_le_self _ _) hm2
  have hdiv2 : (m : Int) / (b : Int) = (Lv : Int) := by rw [← hLv, Int.natCast_ediv]
  obtain ⟨lvb, hlvb⟩ : ∃ lvb, lvb = Lv * b := ⟨_, rfl⟩
  have hlvbm : lvb ≤ m := by rw [hlvb, ← hLv]; exact Nat.div_mul_le_self _ _
  have hmul : (Lv : Int) * (b : Int) = (lvb : Int) := by rw [hlvb]; simp
  obtain ⟨base, hbase⟩ : ∃ base, base = m - lvb := ⟨_, rfl⟩
  have hsub : (m : Int) - (lvb : Int) = (base : Int) := by omega
  have hbase2 : base ≤ 160 := by omega
  have hu' : (u : Int) ≤ 159 := by omega
  have hb1' : (1 : Int) ≤ b := by omega
  have hb2' : (b : Int) ≤ 24 := by omega
  have c1 : ∀ W, Calls Try.prog 17 #[.agg (idL T).toArray, .agg (idL S).toArray, .int .i64 (m : Int)] W fun e w' => e = .returned (.agg (idL D).toArray) ∧ Below W.heap.size W w' := fun W => by
    rw [hDe]; unfold ringN; rw [← hm]; exact dist_any T S m W hm2
  have c3 : ∀ W, Calls Try.prog 18 #[.int .i64 u, .int .i64 b, .agg (idL S).toArray, .agg (idL T).toArray] W fun e w' => e = .returned (.tuple #[.int .i64 (hopI m b D : Nat), .bool (hopOk m b D)]) ∧ Below W.heap.size W w' := fun W => by
    rw [hDe, hm]; exact zhop_any u b S T W hu hb1 hb2
  rw [← hm, ← hDe, hLv, ← hlvb, ← hbase] at hlow
  obtain ⟨h0, hle⟩ := ok_of_above hb1 hD (by rw [hLv, ← hlvb, ← hbase]; exact hlow)
  obtain ⟨e1, e2⟩ := hop_some h0 hle
  have hint := interval (u := u) (b := b) (S := S) (T := T) hb1 (by rw [← hDe]; exact h0) (by rw [← hm, ← hDe]; exact hle)
  dsimp only at hint
  rw [← hm, ← hDe] at hint
  obtain ⟨l, hl⟩ : ∃ l, lev m b D = l := ⟨_, rfl⟩
  rw [hl] at hint e2 hle
  obtain ⟨sh, hsh⟩ : ∃ sh, m - l * b = sh := ⟨_, rfl⟩
  rw [hsh] at hint e2
  obtain ⟨V, hV⟩ : ∃ V, D / 2 ^ sh = V := ⟨_, rfl⟩
  rw [hV] at hint e2
  obtain ⟨st, hst⟩ : ∃ st, subN S (subN 0 (V * 2 ^ sh)) = st := ⟨_, rfl⟩
  rw [hst] at hint
  obtain ⟨i1, i2, i3, i4, i5, i6⟩ := hint
  rw [e1, e2] at c3
  have hl1 : 1 ≤ l := by rw [← hl]; exact lev_pos _ _ _
  obtain ⟨l1, hl1e⟩ : ∃ l1, l = l1 + 1 := ⟨l - 1, by omega⟩
  obtain ⟨I, hI⟩ : ∃ I, I = (l - 1) * 2 ^ b + V := ⟨_, rfl⟩
  rw [← hI] at c3 i6
  have h2b : (2 : Nat) ^ b ≤ 16777216 := by
    have : (2 : Nat) ^ b ≤ 2 ^ 24 := Nat.pow_le_pow_right (by decide) hb2
    have e : (2 : Nat) ^ 24 = 16777216 := by decide
    omega
  have hl160 : l ≤ 160 := by rw [hLv] at hle; omega
  have hIb : I < 9223372036854775808 := by
    have : (l - 1) * 2 ^ b ≤ 160 * 16777216 := Nat.mul_le_mul (by omega) h2b
    omega
  have hIdiv : I / 2 ^ b = l1 := by
    rw [hI, show l - 1 = l1 by omega, Nat.mul_comm, Nat.mul_add_div (Nat.two_pow_pos b), Nat.div_eq_of_lt i2]; rfl
  have hImod : I % 2 ^ b = V := by
    rw [hI, Nat.mul_comm, Nat.mul_add_mod]; exact Nat.mod_eq_of_lt i2
  have hlbm : l * b ≤ m := Nat.le_trans (Nat.mul_le_mul_right b hle) (Nat.div_mul_le_self m b)
  obtain ⟨lb, hlb⟩ : ∃ lb, lb = l * b := ⟨_, rfl⟩
  rw [← hlb] at hlbm hsh
  have hmul2 : ((l1 : Int) + 1) * (b : Int) = (lb : Int) := by rw [hlb, hl1e]; simp
  have hsub2 : (m : Int) - (lb : Int) = (sh : Int) := by omega
  have hsh160 : sh < 160 := by
    have : 1 * b ≤ l * b := Nat.mul_le_mul_right b hl1
    omega
  have hshr : (I : Int) / 2 ^ b = (l1 : Int) := by rw [← hIdiv]; simp
  have hlLv : l1 + 1 ≤ Lv := by rw [hLv] at hle; omega
  have c4 : ∀ W, Calls Try.prog 18 #[.int .i64 u, .int .i64 b, .agg (idL S).toArray, .agg (idL st).toArray] W fun e w' => e = .returned (.tuple #[.int .i64 (I : Int), .bool true]) ∧ Below W.heap.size W w' := fun W => by
    rw [← i6, ← i5, hm]; exact zhop_any u b S st W hu hb1 hb2
  have c5 : ∀ W, Calls Try.prog 20 #[.int .u64 (V : Int), .int .i64 (sh : Int)] W fun e w' => e = .returned (.agg (idL (V * 2 ^ sh)).toArray) ∧ Below W.heap.size W w' := fun W => zshifted_any V sh _ W (by omega) hsh160 rfl i3
  have HB : Hid (decide (D < 2 ^ base) = false) := decide_eq_false hlow
  have HB2 : Hid (decide (ringN u T st < 2 ^ sh) = true) := decide_eq_true i4
  have HR : Hid (ringN u T st < 2 ^ 160) := Nat.lt_of_lt_of_le i4 (Nat.pow_le_pow_right (by decide) (by omega))
  have HD : Hid _ := hD160
  have HST : Hid _ := hst
  have HImod : Hid _ := hImod
  have C4 : Hid _ := c4
  have C5 : Hid _ := c5
  have hVp : (V : Int) < 16777216 := by omega
  have hV0 : ((V : Int) == 0) = false := by simp; omega
  have hIb' : (I : Int) < 9223372036854775808 := by omega
  have hdig : bits .and .i64 (I : Int) (wrap64 (wrap64 ((2 : Int) ^ b) - 1)) = (V : Int) := dig_val I b V hIb h2b hImod
  have hwl : wrap64 ((l1 : Int) + 1) = (l1 : Int) + 1 := IntWalk.wrap64_in _ ⟨by omega, by omega⟩
  have c6 : ∀ W, Calls Try.prog 10 #[.agg (idL S).toArray, .agg (idL (subN 0 (V * 2 ^ sh))).toArray] W fun e w' => e = .returned (.agg (idL st).toArray) ∧ Below W.heap.size W w' := fun W => by
    rw [← hst]; exact zsub_any _ _ W
  have C6 : Hid _ := c6
  have KD : Kept _ := ⟨hdig⟩
  have KW : Kept _ := ⟨hwl⟩
  clear c6 hdig hwl
  have K1 : Kept _ := ⟨hshr⟩
  have K2 : Kept _ := ⟨hmul2⟩
  have K3 : Kept _ := ⟨hsub2⟩
  have K4 : Kept _ := ⟨hV0⟩
  have K5 : Kept _ := ⟨h2b⟩
  have K6 : Kept _ := ⟨hlLv⟩
  have K7 : Kept _ := ⟨hVp⟩
  have K8 : Kept _ := ⟨hIb'⟩
  have K9 : Kept _ := ⟨hsh160⟩
  clear hl1 hl160 hlbm hlLv hVp hIb' hsh160
  clear hlow hD hD160 hm hDe hLv hlvb hbase e1 e2 h0 hle hl hsh hV hst i1 i2 i3 i4 i5 i6 hI hIdiv hImod hlb hl1e c4 c5 hIb hshr hmul2 hsub2 hV0 h2b
  have C1 : Hid _ := c1
  have C3 : Hid _ := c3
  clear c1 c3
  go_enter Try.func7, Try.ntmps7
  go_upto_region 0 with fail
  go_cut [6, 7, 8] (fun p q x W => p = .pointer (some ⟨w.heap.size, 0, none⟩) ∧ q = .pointer (some ⟨w.heap.size + 1, 0, none⟩) ∧ x = .bool false ∧
    Row W w.heap.size (idL S) 22 ∧ Row W (w.heap.size + 1) (idL T) 22 ∧ Below w.heap.size w W)
  case first =>
    go_wp2
    go_meet
    case rel => exact ⟨rfl, rfl, rfl, (row_new _ (idL S) _ _ rfl).alloc _, row_new _ (idL T) _ _ (by simp), ((Below.refl _ _).alloc (Nat.le_refl _) _).alloc (by simp) _⟩
  case rest =>
    obtain ⟨rfl, rfl, rfl, r0, r1, hb⟩ := hcut
    go_upto_region 7 with fail
    go_cut [11] (fun p W => ∃ G, p = .pointer (some ⟨G, 0, none⟩) ∧ Row W G (idL D) 22 ∧ Row W w.heap.size (idL S) 22 ∧ Row W (w.heap.size + 1) (idL T) 22 ∧ Below w.heap.size w W)
    case first =>
      have hid := id20 D
      go_wp2_with (first
        | refine wpList_load_row rfl 22 (.tmp 6) rfl w.heap.size rfl 22 (idL S).toArray (0, 0) _ r0 Try.underlying22 rfl (id20 S).size22 ?_
        | refine wpList_load_row rfl 22 (.tmp 7) rfl (w.heap.size + 1) rfl 22 (idL T).toArray (0, 0) _ r1 Try.underlying22 rfl (id20 T).size22 ?_
        | (go_at_call 17; refine (C1.out _).mono ?_; rintro e w1 ⟨rfl, hw1⟩)
        | refine wpList_store_row rfl 22 _ _ rfl w1.heap.size (idL D).toArray rfl rfl 22 _ (row_new w1 zeros20 22 _ rfl) hid.size22 (by simp [zeros20, hid.1]) hid.all ?_)
      go_meet
      case rel =>
        have q0 := r0.below hw1 r0.lt
        have q1 := r1.below hw1 r1.lt
        have hb1 := hb.trans (hw1.mono hb.size)
        exact ⟨_, rfl, (row_new w1 zeros20 22 _ rfl).setRow, (q0.alloc _).setRow_other _ (Nat.ne_of_lt q0.lt), (q1.alloc _).setRow_other _ (Nat.ne_of_lt q1.lt), below_setRow (hb1.alloc hb1.size _) hb1.size _⟩
    case rest =>
      clear r0 r1 hb
      obtain ⟨G, rfl, rD, r0, r1, hb⟩ := hcut
      go_upto_region 9 with (first
        | refine wpList_load_row rfl 22 (.tmp 6) rfl w.heap.size rfl 22 (idL S).toArray (0, 0) _ r0 Try.underlying22 rfl (id20 S).size22 ?_
        | refine wpList_load_row rfl 22 (.tmp 7) rfl (w.heap.size + 1) rfl 22 (idL T).toArray (0, 0) _ r1 Try.underlying22 rfl (id20 T).size22 ?_
        | (go_at_call 18; refine (C3.out _).mono ?_; rintro e w2 ⟨rfl, hw2⟩))
      have qD := rD.below hw2 rD.lt
      have q0 := r0.below hw2 r0.lt
      have q1 := r1.below hw2 r1.lt
      have hb2 := hb.trans (hw2.mono hb.size)
      clear rD r0 r1 hb hw2
      go_upto_region 13 with (first
        | refine wpList_load_row rfl 22 (.tmp 11) rfl G rfl 22 (idL D).toArray (0, 0) _ qD Try.underlying22 rfl (id20 D).size22 ?_
        | (go_at_call 19; refine (zbelowV D base false _ HD.out hbase2 HB.out).mono ?_; rintro e w3 ⟨rfl, hw3⟩))
      have p0 := q0.below hw3 q0.lt
      have p1 := q1.below hw3 q1.lt
      have hb3 := hb2.trans (hw3.mono hb2.size)
      clear q0 q1 qD hw3
      have hshr := K1.out
      have hmul2 := K2.out
      have hsub2 := K3.out
      have h2b := K5.out
      have hIb' := K8.out
      go_upto_region 15 with fail
      simp only [KD.out, KW.out]
      have hlLv := K6.out
      have hV0 := K4.out
      have hsh160 := K9.out
      clear hshr h2b hIb'
      go_upto_region 18 with fail
      go_cut [17] (fun p W => ∃ Z, p = .pointer (some ⟨Z, 0, none⟩) ∧ Row W Z (idL 0) 25 ∧ Row W w.heap.size (idL S) 22 ∧ Row W (w.heap.size + 1) (idL T) 22 ∧ Below w.heap.size w W)
      case first =>
        go_wp2
        go_meet
        case rel => exact ⟨_, rfl, by rw [idL_zero]; exact row_new w3 zeros20 25 _ rfl, p0.alloc _, p1.alloc _, hb3.alloc hb3.size _⟩
      case rest =>
        clear p0 p1 hb3
        obtain ⟨Z, rfl, rZ, r0, r1, hb⟩ := hcut
        have RZ : Hid _ := rZ
        have R0 : Hid _ := r0
        have R1 : Hid _ := r1
        have HB4 : Hid _ := hb
        clear rZ r0 r1 hb
        go_upto_region 19 with fail
        go_cut [18] (fun p W => ∃ G2, p = .pointer (some ⟨G2, 0, none⟩) ∧ Row W G2 (idL st) 25 ∧ Row W w.heap.size (idL S) 22 ∧ Row W (w.heap.size + 1) (idL T) 22 ∧ Below w.heap.size w W)
        case first =>
          have hVp := K7.out
          refine wp_region_held_drew (S := Below wc.heap.size wc) (by kernel_rfl) (Below.refl _ _).drew (fun hS => ?_)
          refine wpAnyH_take (i := 0) (v := .agg (idL S).toArray) rfl (by kernel_rfl) (by kernel_rfl) (by kernel_rfl) (fun _ _ _ h => h) (yieldsIf_load_mid (by rfl) 22 _ rfl w.heap.size 0 rfl (idL S) _ (fun w' hw' => (Row.below R0.out hw' (Row.lt R0.out)).range) Try.underlying22 rfl (sz22 S)) hS ?_
          simp only [Act.put, List.getElem_toArray, List.getElem_cons_zero, List.getElem_cons_succ, List.setIfInBounds_toArray, List.set_cons_zero, List.set_cons_succ]
          refine wpAnyH_take (i := 1) (v := .agg (idL 0).toArray) rfl (by kernel_rfl) (by kernel_rfl) (by kernel_rfl) (fun _ _ _ h => h) (yieldsIf_load_mid (by rfl) 25 _ rfl Z 0 rfl (idL 0) _ (fun w' hw' => (Row.below RZ.out hw' (Row.lt RZ.out)).range) Try.underlying25 rfl (sz25 0)) hS ?_
          simp only [Act.put, List.getElem_toArray, List.getElem_cons_zero, List.getElem_cons_succ, List.setIfInBounds_toArray, List.set_cons_zero, List.set_cons_succ]
          refine wpAnyH_take (i := 2) (v := .int .i64 (V : Int)) rfl (by kernel_rfl) (by kernel_rfl) (by kernel_rfl) (fun _ _ _ h => h) (Or.inl ⟨by rfl, fun w _ => by go_simp⟩) hS ?_
          simp only [Act.put, List.getElem_toArray, List.getElem_cons_zero, List.getElem_cons_succ, List.setIfInBounds_toArray, List.set_cons_zero, List.set_cons_succ]
          refine wpAnyH_take (i := 3) (v := .int .u64 (V : Int)) rfl (by kernel_rfl) (by kernel_rfl) (by kernel_rfl) (fun _ _ _ h => h) (Or.inl ⟨by rfl, fun w _ => by go_simp; exact u64_in V (by omega)⟩) hS ?_
          simp only [Act.put, List.getElem_toArray, List.getElem_cons_zero, List.getElem_cons_succ, List.setIfInBounds_toArray, List.set_cons_zero, List.set_cons_succ]
          refine wpAnyH_take (i := 4) (v := .int .i64 (sh : Int)) rfl (by kernel_rfl) (by kernel_rfl) (by kernel_rfl) (fun _ _ _ h => h) (Or.inl ⟨by rfl, fun w _ => by go_simp⟩) hS ?_
          simp only [Act.put, List.getElem_toArray, List.getElem_cons_zero, List.getElem_cons_succ, List.setIfInBounds_toArray, List.set_cons_zero, List.set_cons_succ]
          refine wpAnyH_ready (rs := [5, 8]) (by kernel_rfl) (by simp) (AllReadyH.cons rfl (fun K hK => ?_) (AllReadyH.cons rfl (fun K hK => ?_) AllReadyH.nil))
          · go_simp
            refine (C5.out _).mono ?_
            rintro e v1 ⟨rfl, hv1⟩
            refine hK.out _ _ (hS.trans (hv1.mono hS.size)) (fun s1 => ?_)
            clear hK
            refine wpAnyH_ready (rs := [6, 8]) (by kernel_rfl) (by simp) (AllReadyH.cons rfl (fun K hK => ?_) (AllReadyH.cons rfl (fun K hK => ?_) AllReadyH.nil))
            · go_simp
              refine (zsub_any 0 (V * 2 ^ sh) _).mono ?_
              rintro e v2 ⟨rfl, hv2⟩
              refine hK.out _ _ (s1.trans (hv2.mono s1.size)) (fun s2 => ?_)
              clear hK
              refine wpAnyH_ready (rs := [7, 8]) (by kernel_rfl) (by simp) (AllReadyH.cons rfl (fun K hK => ?_) (AllReadyH.cons rfl (fun K hK => ?_) AllReadyH.nil))
              · go_simp
                refine (C6.out _).mono ?_
                rintro e v3 ⟨rfl, hv3⟩
                refine hK.out _ _ (s2.trans (hv3.mono s2.size)) (fun s3 => ?_)
                clear hK
                refine wpAnyH_ready (rs := [8]) (by kernel_rfl) (by simp) (AllReadyH.cons rfl (fun K hK => ?_) AllReadyH.nil)
                go_simp
                have z4 := row_new v3 zeros20 25 _ rfl
                refine hK.out _ _ (s3.alloc s3.size _) (fun s4 => ?_)
                clear hK
                obtain ⟨q5, -⟩ := row_setCells _ _ (idL st) 0 zeros20 _ z4 (by simp [zeros20, idL])
                rw [splice_all zeros20 (idL st) (by simp [zeros20, idL])] at q5
                have hth : World.there (v3.alloc (.cells zeros20.toArray 25)) (v3.heap.size) 0 (idL st).toArray.size := by simpa [idL_len] using z4.there (n := 20) (by simp [zeros20])
                refine wpAnyH_ready (rs := [9]) (by kernel_rfl) (by simp) (AllReadyH.cons rfl (fun K hK => ?_) AllReadyH.nil)
                rw [if_pos (by rfl)]
                refine wp_store_mid 25 _ _ rfl (v3.heap.size) 0 (idL st).toArray rfl rfl hth (sz25' _) (id20 _).all ?_
                refine hK.out _ _ (below_store s4 s3.size 0 _) (fun sf => ?_)
                clear hK
                refine wpAnyH_done (by kernel_rfl) ?_ _
                simp only [Act.put, List.getElem_toArray, List.getElem_cons_zero, List.getElem_cons_succ, List.toList_toArray]
                go_wp2_with fail
                go_meet
                exact ⟨_, rfl, q5, Row.below R0.out sf (Row.lt R0.out), Row.below R1.out sf (Row.lt R1.out), Below.trans HB4.out (sf.mono (Below.size HB4.out))⟩
              · go_simp
                have z5 := row_new v2 zeros20 25 _ rfl
                refine hK.out _ _ (s2.alloc s2.size _) (fun s5 => ?_)
                clear hK
                refine wpAnyH_ready (rs := [7]) (by kernel_rfl) (by simp) (AllReadyH.cons rfl (fun K hK => ?_) AllReadyH.nil)
                go_simp
                refine (C6.out _).mono ?_
                rintro e v6 ⟨rfl, hv6⟩
                have z6 := Row.below z5 hv6 z5.lt
                refine hK.out _ _ (s5.trans (hv6.mono s5.size)) (fun s6 => ?_)
                clear hK
                obtain ⟨q5, -⟩ := row_setCells _ _ (idL st) 0 zeros20 _ z6 (by simp [zeros20, idL])
                rw [splice_all zeros20 (idL st) (by simp [zeros20, idL])] at q5
                have hth : World.there v6 (v2.heap.size) 0 (idL st).toArray.size := by simpa [idL_len] using z6.there (n := 20) (by simp [zeros20])
                refine wpAnyH_ready (rs := [9]) (by kernel_rfl) (by simp) (AllReadyH.cons rfl (fun K hK => ?_) AllReadyH.nil)
                rw [if_pos (by rfl)]
                refine wp_store_mid 25 _ _ rfl (v2.heap.size) 0 (idL st).toArray rfl rfl hth (sz25' _) (id20 _).all ?_
                refine hK.out _ _ (below_store s6 s2.size 0 _) (fun sf => ?_)
                clear hK
                refine wpAnyH_done (by kernel_rfl) ?_ _
                simp only [Act.put, List.getElem_toArray, List.getElem_cons_zero, List.getElem_cons_succ, List.toList_toArray]
                go_wp2_with fail
                go_meet
                exact ⟨_, rfl, q5, Row.below R0.out sf (Row.lt R0.out), Row.below R1.out sf (Row.lt R1.out), Below.trans HB4.out (sf.mono (Below.size HB4.out))⟩
            · go_simp
              have z7 := row_new v1 zeros20 25 _ rfl
              refine hK.out _ _ (s1.alloc s1.size _) (fun s7 => ?_)
              clear hK
              refine wpAnyH_ready (rs := [6]) (by kernel_rfl) (by simp) (AllReadyH.cons rfl (fun K hK => ?_) AllReadyH.nil)
              go_simp
              refine (zsub_any 0 (V * 2 ^ sh) _).mono ?_
              rintro e v8 ⟨rfl, hv8⟩
              have z8 := Row.below z7 hv8 z7.lt
              refine hK.out _ _ (s7.trans (hv8.mono s7.size)) (fun s8 => ?_)
              clear hK
              refine wpAnyH_ready (rs := [7]) (by kernel_rfl) (by simp) (AllReadyH.cons rfl (fun K hK => ?_) AllReadyH.nil)
              go_simp
              refine (C6.out _).mono ?_
              rintro e v9 ⟨rfl, hv9⟩
              have z9 := Row.below z8 hv9 z8.lt
              refine hK.out _ _ (s8.trans (hv9.mono s8.size)) (fun s9 => ?_)
              clear hK
              obtain ⟨q5, -⟩ := row_setCells _ _ (idL st) 0 zeros20 _ z9 (by simp [zeros20, idL])
              rw [splice_all zeros20 (idL st) (by simp [zeros20, idL])] at q5
              have hth : World.there v9 (v1.heap.size) 0 (idL st).toArray.size := by simpa [idL_len] using z9.there (n := 20) (by simp [zeros20])
              refine wpAnyH_ready (rs := [9]) (by kernel_rfl) (by simp) (AllReadyH.cons rfl (fun K hK => ?_) AllReadyH.nil)
              rw [if_pos (by rfl)]
              refine wp_store_mid 25 _ _ rfl (v1.heap.size) 0 (idL st).toArray rfl rfl hth (sz25' _) (id20 _).all ?_
              refine hK.out _ _ (below_store s9 s1.size 0 _) (fun sf => ?_)
              clear hK
              refine wpAnyH_done (by kernel_rfl) ?_ _
              simp only [Act.put, List.getElem_toArray, List.getElem_cons_zero, List.getElem_cons_succ, List.toList_toArray]
              go_wp2_with fail
              go_meet
              exact ⟨_, rfl, q5, Row.below R0.out sf (Row.lt R0.out), Row.below R1.out sf (Row.lt R1.out), Below.trans HB4.out (sf.mono (Below.size HB4.out))⟩
          · go_simp
            have z10 := (row_new wc zeros20 25 _ rfl).drew
            have t10 : Below wc.heap.size wc (wc.alloc (.cells zeros20.toArray 25)).drew := ((Below.refl _ _).alloc (Nat.le_refl _) _).drew
            refine hK.out _ _ t10 (fun s10 => ?_)
            clear hK
            refine wpAnyH_ready (rs := [5]) (by kernel_rfl) (by simp) (AllReadyH.cons rfl (fun K hK => ?_) AllReadyH.nil)
            go_simp
            refine (C5.out _).mono ?_
            rintro e v11 ⟨rfl, hv11⟩
            have z11 := Row.below z10 hv11 z10.lt
            refine hK.out _ _ (s10.trans (hv11.mono s10.size)) (fun s11 => ?_)
            clear hK
            refine wpAnyH_ready (rs := [6]) (by kernel_rfl) (by simp) (AllReadyH.cons rfl (fun K hK => ?_) AllReadyH.nil)
            go_simp
            refine (zsub_any 0 (V * 2 ^ sh) _).mono ?_
            rintro e v12 ⟨rfl, hv12⟩
            have z12 := Row.below z11 hv12 z11.lt
            refine hK.out _ _ (s11.trans (hv12.mono s11.size)) (fun s12 => ?_)
            clear hK
            refine wpAnyH_ready (rs := [7]) (by kernel_rfl) (by simp) (AllReadyH.cons rfl (fun K hK => ?_) AllReadyH.nil)
            go_simp
            refine (C6.out _).mono ?_
            rintro e v13 ⟨rfl, hv13⟩
            have z13 := Row.below z12 hv13 z12.lt
            refine hK.out _ _ (s12.trans (hv13.mono s12.size)) (fun s13 => ?_)
            clear hK
            obtain ⟨q5, -⟩ := row_setCells _ _ (idL st) 0 zeros20 _ z13 (by simp [zeros20, idL])
            rw [splice_all zeros20 (idL st) (by simp [zeros20, idL])] at q5
            have hth : World.there v13 (wc.heap.size) 0 (idL st).toArray.size := by simpa [idL_len] using z13.there (n := 20) (by simp [zeros20])
            refine wpAnyH_ready (rs := [9]) (by kernel_rfl) (by simp) (AllReadyH.cons rfl (fun K hK => ?_) AllReadyH.nil)
            rw [if_pos (by rfl)]
            refine wp_store_mid 25 _ _ rfl (wc.heap.size) 0 (idL st).toArray rfl rfl hth (sz25' _) (id20 _).all ?_
            refine hK.out _ _ (below_store s13 (Nat.le_refl _) 0 _) (fun sf => ?_)
            clear hK
            refine wpAnyH_done (by kernel_rfl) ?_ _
            simp only [Act.put, List.getElem_toArray, List.getElem_cons_zero, List.getElem_cons_succ, List.toList_toArray]
            go_wp2_with fail
            go_meet
            exact ⟨_, rfl, q5, Row.below R0.out sf (Row.lt R0.out), Row.below R1.out sf (Row.lt R1.out), Below.trans HB4.out (sf.mono (Below.size HB4.out))⟩
        case rest =>
          clear R0 R1 RZ HB4
          obtain ⟨G2, rfl, rs, r0, r1, hb⟩ := hcut
          go_upto_region 22 with (first
            | refine wpList_load_row rfl 22 (.tmp 7) rfl (w.heap.size + 1) rfl 22 (idL T).toArray (0, 0) _ r1 Try.underlying22 rfl (id20 T).size22 ?_
            | refine wpList_load_row rfl 25 (.tmp 18) rfl G2 rfl 25 (idL st).toArray (0, 0) _ rs Try.underlying25 rfl (id20 st).size25 ?_
            | (go_at_call 21; refine (zringSub_any u T st _ hu).mono ?_; rintro e x4 ⟨rfl, hx4⟩)
            | (go_at_call 19; refine (zbelowV (ringN u T st) sh true _ HR.out (Nat.le_of_lt hsh160) HB2.out).mono ?_; rintro e x5 ⟨rfl, hx5⟩))
          have s0 := (r0.below hx4 r0.lt).below hx5 (r0.below hx4 r0.lt).lt
          have ss := (rs.below hx4 rs.lt).below hx5 (rs.below hx4 rs.lt).lt
          have hb5 := hb.trans (hx4.mono hb.size)
          have hb6 := hb5.trans (hx5.mono hb5.size)
          clear r0 r1 rs hb hx4 hx5 hb5
          go_wp2_with (first
            | refine wpList_load_row rfl 22 (.tmp 6) rfl w.heap.size rfl 22 (idL S).toArray (0, 0) _ s0 Try.underlying22 rfl (id20 S).size22 ?_
            | refine wpList_load_row rfl 25 (.tmp 18) rfl G2 rfl 25 (idL st).toArray (0, 0) _ ss Try.underlying25 rfl (id20 st).size25 ?_
            | (go_at_call 18; refine (C4.out _).mono ?_; rintro e x6 ⟨rfl, hx6⟩))
          go_ret
          exact ⟨by simp, hb6.trans (hx6.mono hb6.size)⟩
end Go.Proofs.Qxb6614219a
