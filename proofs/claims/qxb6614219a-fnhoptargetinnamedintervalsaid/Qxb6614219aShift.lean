import Derived.Test.Qxb6614219aRing
namespace Go.Proofs.Qxb6614219a
open Go.RowKit
set_option linter.unusedVariables false
set_option linter.unusedSimpArgs false

theorem mid_num (v s : Nat) (hv : v < 18446744073709551616) (h1 : 64 ≤ s) (h2 : s < 128) :
    v * 2 ^ s % 1461501637330902918203684832716283019655932542976 = v / 2 ^ (128 - s) % 4294967296 * 340282366920938463463374607431768211456 + v * 2 ^ (s - 64) % 18446744073709551616 * 18446744073709551616 := by
  have e := pow_split v (s - 64) 64 (by omega)
  have e64 : (2 : Nat) ^ 64 = 18446744073709551616 := by decide
  rw [e64, show 64 - (s - 64) = 128 - s by omega] at e
  have e2 : v * 2 ^ s = v * 2 ^ (s - 64) * 18446744073709551616 := by
    rw [← e64, Nat.mul_assoc, ← Nat.pow_add]; congr 2; omega
  rw [e2, ← e]
  generalize v * 2 ^ (s - 64) = X
  omega
theorem hi_num (v s : Nat) (h1 : 128 ≤ s) :
    v * 2 ^ s % 1461501637330902918203684832716283019655932542976 = v * 2 ^ (s - 128) % 18446744073709551616 % 4294967296 * 340282366920938463463374607431768211456 := by
  have e128 : (2 : Nat) ^ 128 = 340282366920938463463374607431768211456 := by decide
  have e2 : v * 2 ^ s = v * 2 ^ (s - 128) * 340282366920938463463374607431768211456 := by
    rw [← e128, Nat.mul_assoc, ← Nat.pow_add]; congr 2; omega
  rw [e2]
  generalize v * 2 ^ (s - 128) = X
  omega

set_option maxRecDepth 100000 in
set_option maxHeartbeats 1000000 in
theorem shifted_mid (v s : Nat) (w : World) (h1 : v < 18446744073709551616) (hs : 64 ≤ s) (hs2 : s < 128) :
    Calls Try.prog 28 #[.int .u64 v, .int .i64 s] w fun e w' => e = .returned (.agg (idL (v * 2 ^ s % 1461501637330902918203684832716283019655932542976)).toArray) ∧ Below w.heap.size w w' := by
  have hs' : ¬ (s : Int) < 64 := by omega
  have hs2' : (s : Int) < 128 := by omega
  have n1 := mid_num v s h1 hs hs2
  have hx := wrap_i64 (128 - (s : Int)) (by omega) (by omega)
  have hy := wrap_i64 ((s : Int) - 64) (by omega) (by omega)
  obtain ⟨Y, hY⟩ : ∃ Y : Nat, Y = v / 2 ^ (128 - s) := ⟨_, rfl⟩
  obtain ⟨A, hA⟩ : ∃ A : Nat, A = Y % 4294967296 := ⟨_, rfl⟩
  obtain ⟨L, hL⟩ : ∃ L : Nat, L = v * 2 ^ (s - 64) % 18446744073709551616 := ⟨_, rfl⟩
  have s1 : Op.shift .shr .u64 v .i64 (128 - (s : Int)) = pure (.int .u64 Y) := by
    refine shr_eq v _ (128 - s) Y (by omega) ?_
    rw [show min (128 - s) 64 = 128 - s by omega, hY]; simp
  have s5 : (v : Int) / 2 ^ (128 - s) = Y := by rw [hY]; simp
  have s6 : IntKind.u32.wrap (Y : Int) = A := by rw [hA, IntKind.wrap_u32']; omega
  have s3 : Op.shift .shl .u64 v .i64 ((s : Int) - 64) = pure (.int .u64 L) := by
    refine shl_eq v _ (s - 64) L (by omega) ?_
    rw [show min (s - 64) 64 = s - 64 by omega, hL]; simp
  have s7 : ((s : Int) - 64).toNat = s - 64 := by omega
  have s4 : IntKind.u64.wrap ((v : Int) * 2 ^ (s - 64)) = L := by
    rw [hL]; simp [IntKind.wrap, IntKind.bits, IntKind.signed]
  obtain ⟨N, hN⟩ : ∃ N : Nat, N = v * 2 ^ s % 1461501637330902918203684832716283019655932542976 := ⟨_, rfl⟩
  have hNn : (N : Int) = A * 340282366920938463463374607431768211456 + L * 18446744073709551616 + 0 := by
    have : N = A * 340282366920938463463374607431768211456 + L * 18446744073709551616 := by rw [hN, hA, hL, hY]; exact n1
    omega
  have HN : Hid _ := hN
  have HNn : Hid _ := hNn
  have a0 : (0 : Int) ≤ A := by omega
  have a1 : (A : Int) < 4294967296 := by rw [hA]; omega
  have l0 : (0 : Int) ≤ L := by omega
  have l1 : (L : Int) < 18446744073709551616 := by rw [hL]; omega
  clear n1 hA hL hN hNn h1 hY
  go_enter Try.func28, Try.ntmps28
  go_upto_region 3 with fail
  go_cut [22] (fun p W => p = .bool true ∧ Row W w.heap.size zeros20 25 ∧ Below w.heap.size w W)
  case first =>
    go_wp2
    go_meet
    case rel => exact ⟨rfl, row_new _ zeros20 _ _ rfl, (Below.refl _ _).alloc (Nat.le_refl _) _⟩
  case rest =>
    obtain ⟨rfl, r0, hb⟩ := hcut
    go_upto_region 4 with fail
    go_cut [] (fun W => Row W w.heap.size (idL N) 25 ∧ Below w.heap.size w W)
    case first =>
      have hu := Try.underlying25
      have hsz : (Try.prog.info? 25).map (·.size) = some (idL N).length := by rw [idL_len]; exact size25
      have hln := idL_len N
      have hone := (id20 N).2
      have ht : wc.there w.heap.size 0 20 := r0.there (by simp [zeros20])
      go_region_held3 (fun w' => w'.there w.heap.size 0 20) (first | (refine World.there_setCells ?_ _ _ _; exact there_below ht (by assumption)) | (simp only [World.there_drew]; exact ht) | (exact there_below ht (by assumption)))
        (first | (go_at_call 38; refine (id_num _ _ _ N _ a0 a1 l0 l1 ?_ ?_ HNn.out).mono ?_; exact Int.le_refl 0; decide; rintro e w1 ⟨rfl, hb1⟩))
      all_goals (go_wp2_with fail; go_meet)
      all_goals
        have hr1 : Row w1 w.heap.size zeros20 25 := Row.below r0.drew hb1 r0.lt
        obtain ⟨e1, e2⟩ := row_setCells _ _ (idL N) 0 zeros20 w1 hr1 (by simp [zeros20, idL])
        rw [splice_all zeros20 (idL N) (by simp [zeros20, idL])] at e1
        exact ⟨e1, (hb.drew.trans (hb1.mono (by simpa using hb.size))).grown e2 (Nat.le_trans (by simpa using hb.size) (by simpa using hb1.size)) (by simp)⟩
    case rest =>
      obtain ⟨r1, hb⟩ := hcut
      go_wp2
      refine bodyPost_ret (v := .agg (idL N).toArray) (results_cell_row Try.results28 _ _ w.heap.size 25 (idL N).toArray (0, 0) _ rfl r1 Try.underlying25 rfl (id20 N).size25) rfl ⟨?_, hb⟩
      rw [HN.out]

set_option maxRecDepth 100000 in
set_option maxHeartbeats 1000000 in
theorem shifted_hi (v s : Nat) (w : World) (h1 : v < 18446744073709551616) (hs : 128 ≤ s) (hs2 : s < 160) :
    Calls Try.prog 28 #[.int .u64 v, .int .i64 s] w fun e w' => e = .returned (.agg (idL (v * 2 ^ s % 1461501637330902918203684832716283019655932542976)).toArray) ∧ Below w.heap.size w w' := by
  have hs' : ¬ (s : Int) < 64 := by omega
  have hs2' : ¬ (s : Int) < 128 := by omega
  have hs3 : (s : Int) < 160 := by omega
  have n1 := hi_num v s hs
  obtain ⟨L, hL⟩ : ∃ L : Nat, L = v * 2 ^ (s - 128) % 18446744073709551616 := ⟨_, rfl⟩
  obtain ⟨A, hA⟩ : ∃ A : Nat, A = L % 4294967296 := ⟨_, rfl⟩
  obtain ⟨N, hN⟩ : ∃ N : Nat, N = v * 2 ^ s % 1461501637330902918203684832716283019655932542976 := ⟨_, rfl⟩
  have hNn : (N : Int) = A * 340282366920938463463374607431768211456 + 0 * 18446744073709551616 + 0 := by
    have : N = A * 340282366920938463463374607431768211456 := by rw [hN, hA, hL]; exact n1
    omega
  have s4 : IntKind.u64.wrap ((v : Int) * 2 ^ (s - 128)) % 4294967296 = A := by
    rw [hA, hL]; simp [IntKind.wrap, IntKind.bits, IntKind.signed]
  have HN : Hid _ := hN
  have HNn : Hid _ := hNn
  have H4 : Hid _ := s4
  have a0 : (0 : Int) ≤ A := by omega
  have a1 : (A : Int) < 4294967296 := by rw [hA]; omega
  clear n1 hA hL hN hNn s4
  go_enter Try.func28, Try.ntmps28
  go_upto_region 3 with fail
  go_cut [22] (fun p W => p = .bool false ∧ Row W w.heap.size zeros20 25 ∧ Below w.heap.size w W)
  case first =>
    go_wp2
    go_meet
    case rel => exact ⟨rfl, row_new _ zeros20 _ _ rfl, (Below.refl _ _).alloc (Nat.le_refl _) _⟩
  case rest =>
    obtain ⟨rfl, r0, hb⟩ := hcut
    have hid := id20 N
    go_wp2_with fail
    rw [H4.out]
    refine (id_num A 0 0 N _ a0 a1 (Int.le_refl 0) (by decide) (Int.le_refl 0) (by decide) HNn.out).mono ?_
    rintro e w1 ⟨rfl, hw1⟩
    have q := r0.below hw1 r0.lt
    go_wp2_with (first | refine wpList_store_row rfl 25 _ _ rfl w.heap.size (idL N).toArray rfl rfl 25 _ q hid.size25 (by simp [zeros20, hid.1]) hid.all ?_)
    refine bodyPost_ret (v := .agg (idL N).toArray) (results_cell_row Try.results28 _ _ w.heap.size 25 (idL N).toArray (0, 0) _ rfl q.setRow Try.underlying25 rfl hid.size25) rfl ⟨by rw [HN.out], ?_⟩
    exact below_setRow (hb.trans (hw1.mono hb.size)) (Nat.le_refl _) _

/-- shiftedID, by its number. -/
theorem shifted_any (v s : Nat) (w : World) (h1 : v < 18446744073709551616) (hs : s < 160) :
    Calls Try.prog 28 #[.int .u64 v, .int .i64 s] w fun e w' => e = .returned (.agg (idL (v * 2 ^ s % 1461501637330902918203684832716283019655932542976)).toArray) ∧ Below w.heap.size w w' := by
  by_cases a : s < 64
  · exact shifted_lo v s w h1 a
  by_cases b : s < 128
  · exact shifted_mid v s w h1 (by omega) b
  · exact shifted_hi v s w h1 (by omega) hs

/-- ZZshiftedID, where nothing is shifted out. -/
theorem zshifted_any (v s N : Nat) (w : World) (h1 : v < 18446744073709551616) (hs : s < 160) (hN : v * 2 ^ s = N) (hN2 : N < 2 ^ 160) :
    Calls Try.prog 20 #[.int .u64 v, .int .i64 s] w fun e w' => e = .returned (.agg (idL N).toArray) ∧ Below w.heap.size w w' := by
  have hc : ∀ W, Calls Try.prog 28 #[.int .u64 v, .int .i64 s] W fun e w' => e = .returned (.agg (idL N).toArray) ∧ Below W.heap.size W w' := fun W => by
    have := shifted_any v s W h1 hs
    rw [hN, Nat.mod_eq_of_lt (by have : (2 : Nat) ^ 160 = 1461501637330902918203684832716283019655932542976 := by decide
                                 omega)] at this
    exact this
  have hid := id20 N
  have HC : Hid _ := hc
  clear hc hN hN2
  go_enter Try.func20, Try.ntmps20
  go_wp2_with (first
    | (go_at_call 28; refine (HC.out _).mono ?_; rintro e w' ⟨rfl, hb1⟩; have hr : Row w' w.heap.size zeros20 25 := Row.below (row_new _ zeros20 _ _ rfl) hb1 (by simp))
    | refine wpList_store_row rfl 25 _ _ rfl w.heap.size (idL N).toArray rfl rfl 25 _ hr hid.size25 (by simp [zeros20, hid.1]) hid.all ?_)
  refine bodyPost_ret (v := .agg (idL N).toArray) (results_cell_row Try.results20 _ _ w.heap.size 25 (idL N).toArray (0, 0) _ rfl hr.setRow Try.underlying25 rfl hid.size25) rfl ⟨rfl, ?_⟩
  exact below_setRow (((Below.refl _ _).alloc (Nat.le_refl _) _).trans (hb1.mono (by simp))) (Nat.le_refl _) _

set_option maxHeartbeats 400000 in
/-- ZZringSub. -/
theorem zringSub_any (u A B : Nat) (w : World) (hu : u ≤ 159) :
    Calls Try.prog 21 #[.int .i64 u, .agg (idL A).toArray, .agg (idL B).toArray] w fun e w' => e = .returned (.agg (idL (ringN u A B)).toArray) ∧ Below w.heap.size w w' := by
  go_enter Try.func21, Try.ntmps21
  go_upto_region 0 with fail
  go_cut [4, 5, 6] (fun p q s W => p = .pointer (some ⟨w.heap.size, 0, none⟩) ∧ q = .pointer (some ⟨w.heap.size + 1, 0, none⟩) ∧ s = .pointer (some ⟨w.heap.size + 2, 0, none⟩) ∧
    Row W w.heap.size (idL A) 25 ∧ Row W (w.heap.size + 1) (idL B) 25 ∧ Row W (w.heap.size + 2) zeros20 25 ∧ Below w.heap.size w W)
  case first =>
    go_wp2
    go_meet
    case rel => exact ⟨rfl, rfl, rfl, ((row_new _ (idL A) _ _ rfl).alloc _).alloc _, (row_new _ (idL B) _ _ (by simp)).alloc _, row_new _ zeros20 _ _ (by simp), (((Below.refl _ _).alloc (Nat.le_refl _) _).alloc (by simp) _).alloc (by simp; omega) _⟩
  case rest =>
    obtain ⟨rfl, rfl, rfl, r0, r1, r2, hb⟩ := hcut
    go_wp2_with (first
      | refine wpList_load_row rfl 25 (.tmp 4) rfl w.heap.size rfl 25 (idL A).toArray (0, 0) _ r0 Try.underlying25 rfl (id20 A).size25 ?_
      | refine wpList_load_row rfl 25 (.tmp 5) rfl (w.heap.size + 1) rfl 25 (idL B).toArray (0, 0) _ r1 Try.underlying25 rfl (id20 B).size25 ?_
      | (go_at_call 34; refine (ringSub_any u A B _ hu).mono ?_; rintro e w1 ⟨rfl, hb1⟩; have q2 := r2.below hb1 r2.lt)
      | refine wpList_store_row rfl 25 _ _ rfl (w.heap.size + 2) (idL (ringN u A B)).toArray rfl rfl 25 _ q2 (id20 _).size25 (by simp [zeros20, (id20 (ringN u A B)).1]) (id20 _).all ?_)
    refine bodyPost_ret (v := .agg (idL (ringN u A B)).toArray) (results_cell_row Try.results21 _ _ (w.heap.size + 2) 25 (idL (ringN u A B)).toArray (0, 0) _ rfl q2.setRow Try.underlying25 rfl (id20 _).size25) rfl ⟨rfl, ?_⟩
    exact below_setRow (hb.trans (hb1.mono hb.size)) (by omega) _
end Go.Proofs.Qxb6614219a
