import Derived.Test.Qxb6614154aSpans
import Derived.Below
namespace Go.Proofs.Qxb6614154a
open Go.RowKit

theorem info5 : (Try.prog.info? 5).map (fun i => (i.zero, i.size, i.bytes)) = some (some (.int .u8 0), 1, 1) := by kernel_rfl
theorem size5 : (Try.prog.info? 5).map (·.size) = some 1 := by kernel_rfl

theorem made_block {w : World} {base e g n : Nat} {xs : List Value} (h : w.ownsRow base e 1 (.slice (some ⟨g, 0, none⟩) n n) n xs) :
    w.heap[g]? = some (.cells xs.toArray e (0, 0)) ∧ xs.length = n := by
  obtain ⟨hl, h | ⟨g', cap, cur, hv, _, hh, _, _, hs, ht⟩⟩ := h
  · simp at h
  · simp at hv
    obtain ⟨rfl, rfl⟩ := hv
    have : cur.toList = xs := by rw [← ht, List.take_of_length_le (by simp; omega)]
    subst this
    exact ⟨by simpa using hh, by simpa using hl⟩

theorem cell_row {w : World} {g e : Nat} {cs : List Value} (h : w.heap[g]? = some (.cells cs.toArray e (0, 0))) (i : Nat) (hi : i < cs.length) : w.cell? ⟨g, i, none⟩ = some cs[i] := by
  simp [World.cell?, h, hi]

theorem getD_wf {z : List Int} (h : ∀ k ∈ z, (Lit.int .u8 k).wf = true) (i : Nat) : 0 ≤ z.getD i 0 ∧ z.getD i 0 ≤ 255 := by
  rw [List.getD_eq_getElem?_getD]
  by_cases hi : i < z.length
  · have := h z[i] (List.getElem_mem hi)
    simp [Lit.wf, IntKind.min, IntKind.max, IntKind.signed, IntKind.bits] at this
    simp [hi]; omega
  · simp [hi]

/-- 'zzc := make([]byte, len(s)); copy(zzc, s)': what the copy does, and what then lies in the new row. -/
theorem copy_made {w w1 : World} (x : Addr) (n c : Nat) (z0 : List Int) {ys : List Value} (hown : w1.ownsRow w.heap.size 5 1 (.slice (some ⟨w.heap.size, 0, none⟩) n n) n ys) (hgrow : w.grownBy w1 none)
    (hl : n ≤ c) (hz : z0.length = c) (hcell : ∀ i, i < z0.length → w.cell? (x.add i) = some (.int .u8 (z0.getD i 0))) (hwz : ∀ k ∈ z0, (Lit.int .u8 k).wf = true) :
    ∃ w2, (∀ ty, (Builtin.copy_ #[22, 22] ty #[.slice (some ⟨w.heap.size, 0, none⟩) n n, .slice (some x) n c]).run Try.prog w1 = .ok (.int .i64 n) w2) ∧ Below w.heap.size w w2 ∧ w.heap.size < w2.heap.size ∧
      Bts w2 (some ⟨w.heap.size, 0, none⟩) n (fun i => z0.getD i 0) := by
  obtain ⟨hg, hyl⟩ := made_block hown
  obtain ⟨cs, hcs⟩ : ∃ cs, cs = (z0.take n).map (Value.int .u8) := ⟨_, rfl⟩
  have hcl : cs.length = n := by rw [hcs]; simp; omega
  have hB1 : Below w.heap.size w w1 := (Below.refl _ _).grown hgrow (Nat.le_refl _) (by simp)
  have hsrc : ∀ j v, cs[j]? = some v → w1.cell? (x.add j) = some v := by
    intro j v hv
    have hj : j < n := by rw [← hcl]; exact (List.getElem?_eq_some_iff.1 hv).1
    have hc := hcell j (by omega)
    rw [hB1.cell (World.block_lt_of_cell? _ _ hc), hc, ← hv, hcs]
    simp [List.getElem?_map, hj, List.getElem?_eq_getElem (show j < z0.length by omega)]
  have e : (ys.toArray.toList.take 0 ++ cs ++ ys.toArray.toList.drop (0 + cs.length)).toArray = cs.toArray := by
    simp; omega
  have hset := setRow_heap w1 w.heap.size ys.toArray cs.toArray 5 _ hg
  refine ⟨w1.setRow w.heap.size cs.toArray, ?_, below_setRow hB1 (Nat.le_refl _) _, ?_, ?_⟩
  · intro ty
    have := run_copy_row (P := Try.prog) w1 22 22 ty 5 w.heap.size 0 n n x n c ys.toArray 5 cs Try.underlying22 size5 hg (by rw [hcl]; exact (Nat.min_self n).symm) hsrc (by simp; omega) (by rw [hcs]; exact ints_oneCell _ _)
    rw [e, hcl] at this
    exact this
  · have := (Array.getElem?_eq_some_iff.1 hset).1
    exact this
  · intro i hi
    refine ⟨_, _, rfl, ?_, getD_wf hwz i⟩
    have hi' : i < cs.length := by omega
    have := cell_row hset i hi'
    rw [Nat.zero_add, this]
    subst hcs
    have hiz : i < z0.length := by omega
    simp [hiz]

theorem Bts.drewN {w : World} {a : Option Addr} {n : Nat} {f : Nat → Int} (h : Bts w a n f) (j : Nat) : Bts (w.drewN j) a n f := h
theorem win_st (st : Nat) : (st : Int) = 8 * ((st / 8 : Nat) : Int) + ((sbF st : Nat) : Int) := by unfold sbF; omega
theorem win_en (st en : Nat) (h : st ≤ en) : (en : Int) = 8 * ((st / 8 : Nat) : Int) + 8 * ((lenF st en : Nat) : Int) - ((ebF en : Nat) : Int) := by unfold lenF ebF; omega
theorem win_le (st en n : Nat) (h : st ≤ en) (h2 : en ≤ 8 * n) : st / 8 + lenF st en ≤ n := by unfold lenF; omega
theorem bit_at_st (f : Nat → Int) (st p k : Nat) (j : Int) (d : Nat) (hp : p = st + d) (h0 : 0 ≤ j) (hj : j = ((sbF p : Nat) : Int) + k - d) : bitF (fun i => f (p / 8 + i)) j.toNat = bitF f (st + k) := by
  have e : 8 * (p / 8) + j.toNat = st + k := by unfold sbF at hj; omega
  rw [bitF_shift, e]
theorem meet_mid (mi : Nat) : (((ebF mi : Nat) : Int) + ((sbF mi : Nat) : Int)) % 8 = 0 := by unfold ebF sbF; omega

theorem bytes1_yes (a : Option Addr) (n c : Nat) (x y z : Int) (w : World) (h : n ≤ 1048576) :
    Calls Try.prog 7 #[.slice a n c, .int .i64 x, .int .i64 y, .int .i64 z] w fun e w' => e = .returned (.bool true) ∧ w = w' := by
  go_enter Try.func7, Try.ntmps7
  go_wp2
  go_ret
  exact ⟨rfl, rfl⟩
theorem bytes1_no (a : Option Addr) (n c : Nat) (x y z : Int) (w : World) (h : ¬ n ≤ 1048576) (hm : n ≤ maxLen) :
    Calls Try.prog 7 #[.slice a n c, .int .i64 x, .int .i64 y, .int .i64 z] w fun e w' => e = .returned (.bool false) ∧ w = w' := by
  unfold maxLen at hm
  go_enter Try.func7, Try.ntmps7
  go_wp2
  go_ret
  exact ⟨rfl, rfl⟩

set_option maxRecDepth 100000 in
set_option maxHeartbeats 1000000 in
theorem cut_some (x : Addr) (n c st mi en : Nat) (z0 : List Int) (w : World) (hl : n ≤ c) (hz : z0.length = c) (hcell : ∀ i, i < z0.length → w.cell? (x.add i) = some (.int .u8 (z0.getD i 0))) (hwz : ∀ k ∈ z0, (Lit.int .u8 k).wf = true)
    (hn : n ≤ 1048576) (h1 : st ≤ mi) (h2 : mi ≤ en) (h3 : en ≤ 8 * n) :
    Calls Try.prog 3 #[.slice (some x) n c, .int .i64 st, .int .i64 mi, .int .i64 en] w fun e w' => e = .returned (.bool true) ∧ Below w.heap.size w w' := by
  obtain ⟨i0, hi, hz0, hz1, hz2⟩ := info_parts info5
  have HZ : Hid (z0.length = c) := hz
  have HC : Hid (∀ i, i < z0.length → w.cell? (x.add i) = some (.int .u8 (z0.getD i 0))) := hcell
  have HW : Hid (∀ k ∈ z0, (Lit.int .u8 k).wf = true) := hwz
  obtain ⟨f, hf⟩ : ∃ f : Nat → Int, f = fun i => z0.getD i 0 := ⟨_, rfl⟩
  have HF : Hid (f = fun i => z0.getD i 0) := hf
  clear hz hcell hwz hf
  have h12 : st ≤ en := by omega
  have h32 : mi ≤ 8 * n := by omega
  have b1 := sbF_le st
  have b2 := sbF_le mi
  have b3 := ebF_le en
  have b4 := ebF_le mi
  have hmeet : (((ebF mi : Nat) : Int) + ((sbF mi : Nat) : Int)) % 8 = 0 := meet_mid mi
  go_enter Try.func3, Try.ntmps3
  go_wp2_with (first
    | (go_at_call 7; refine (bytes1_yes _ _ _ _ _ _ _ hn).mono ?_; rintro e w' ⟨rfl, rfl⟩)
    | (at_make; refine wpList_make_full _ rfl _ _ 22 rfl w.heap.size 5 i0 (.int .u8 0) 1 Try.underlying22 hi hz0 hz1 _ _ _ _ n rfl rfl rfl rfl (by rw [hz2]; omega) (by unfold maxLen; omega) (Nat.le_refl _) ?_; intro w1 hown hgrow; obtain ⟨w2, hcp, hB2, hs2, hb2⟩ := copy_made x n c z0 hown hgrow hl HZ.out HC.out HW.out; rw [← HF.out] at hb2; clear hown hgrow)
    | fail)
  refine (zspan_any _ n n st en f _ hb2 (by omega) (Nat.le_refl _) (by omega) (by omega)).mono ?_
  rintro e w' ⟨aD, cD, rfl, hD, rfl⟩
  go_wp2_with fail
  refine (zspan_any _ n n st mi f _ hb2 (by omega) (Nat.le_refl _) (by omega) (by omega)).mono ?_
  rintro e w' ⟨aL, cL, rfl, hL, rfl⟩
  go_wp2_with fail
  refine (zspan_any _ n n mi en f _ hb2 (by omega) (Nat.le_refl _) (by omega) (by omega)).mono ?_
  rintro e w' ⟨aR, cR, rfl, hR, rfl⟩
  go_wp2_with fail
  refine (window_any _ n n aD (lenF st en) cD (st / 8) (sbF st) (ebF en) _ _ f _ hb2 hD (by omega) (sbF_le _) (ebF_le _) (win_st st) (win_en st en h12) (win_le st en n h12 h3)).mono ?_
  rintro e w' ⟨rfl, j1, rfl⟩
  go_wp2_with fail
  refine (window_any _ n n aL (lenF st mi) cL (st / 8) (sbF st) (ebF mi) _ _ f _ (hb2.drewN _) (hL.drewN _) (by omega) (sbF_le _) (ebF_le _) (win_st st) (win_en st mi h1) (win_le st mi n h1 h32)).mono ?_
  rintro e w' ⟨rfl, j2, rfl⟩
  go_wp2_with fail
  refine (window_any _ n n aR (lenF mi en) cR (mi / 8) (sbF mi) (ebF en) _ _ f _ (hb2.drewN _) (hR.drewN _) (by omega) (sbF_le _) (ebF_le _) (win_st mi) (win_en mi en h2) (win_le mi en n h2 h3)).mono ?_
  rintro e w' ⟨rfl, j3, rfl⟩
  have bD : (8 * (lenF st en : Nat) : Int) = en - st + sbF st + ebF en := by have := win_st st; have := win_en st en h12; omega
  have bL : (8 * (lenF st mi : Nat) : Int) = mi - st + sbF st + ebF mi := by have := win_st st; have := win_en st mi h1; omega
  have bR : (8 * (lenF mi en : Nat) : Int) = en - mi + sbF mi + ebF en := by have := win_st mi; have := win_en mi en h2; omega
  have BD : Hid _ := bD
  have BL : Hid _ := bL
  have BR : Hid _ := bR
  have LD := win_le st en n h12 h3
  have LL := win_le st mi n h1 h32
  have LR := win_le mi en n h2 h3
  clear bD bL bR
  go_wp2_with fail
  clear hmeet
  go_loop [20] (fun t => ∃ k : Nat, k ≤ en - st ∧ t = .int .i64 k) (fun t => (en - st) - (intOf t).toNat)
  case atStart => exact ⟨0, by omega, rfl⟩
  case round =>
    obtain ⟨k, hk, rfl⟩ := hrel
    by_cases hlt : k < en - st
    · obtain ⟨r, hr⟩ : ∃ r, r = bitF f (st + k) := ⟨_, rfl⟩
      have HR : Hid (r = bitF f (st + k)) := hr
      clear hr
      by_cases hl : k < mi - st
      · go_wp2_with fail
        refine (bit_any aD (lenF st en) cD _ _ r _ (hD.drewN _) (by omega) (by omega) (by have := BD.out; omega) (by rw [HR.out]; exact bit_at_st f st st k _ 0 (by omega) (by omega) (by omega))).mono ?_
        rintro e w' ⟨rfl, rfl⟩
        go_wp2_with fail
        refine (bit_any aL (lenF st mi) cL _ _ r _ (hL.drewN _) (by omega) (by omega) (by have := BL.out; omega) (by rw [HR.out]; exact bit_at_st f st st k _ 0 (by omega) (by omega) (by omega))).mono ?_
        rintro e w' ⟨rfl, rfl⟩
        go_wp2
        go_round
        case rel => exact ⟨k + 1, by omega, by go_num⟩
        case measure => simp [intOf]; omega
      · go_wp2_with fail
        refine (bit_any aD (lenF st en) cD _ _ r _ (hD.drewN _) (by omega) (by omega) (by have := BD.out; omega) (by rw [HR.out]; exact bit_at_st f st st k _ 0 (by omega) (by omega) (by omega))).mono ?_
        rintro e w' ⟨rfl, rfl⟩
        go_wp2_with fail
        refine (bit_any aR (lenF mi en) cR _ _ r _ (hR.drewN _) (by omega) (by omega) (by have := BR.out; omega) (by rw [HR.out]; exact bit_at_st f st mi k _ (mi - st) (by omega) (by omega) (by omega))).mono ?_
        rintro e w' ⟨rfl, rfl⟩
        go_wp2
        go_round
        case rel => exact ⟨k + 1, by omega, by go_num⟩
        case measure => simp [intOf]; omega
    · go_wp2_with fail
      go_ret
      exact ⟨rfl, below_drewN hB2 _⟩

theorem span_0 (w : World) : Calls Try.prog 21 #[.slice none 0 0, .int .i64 0, .int .i64 0] w fun e w' => e = .returned (.tuple #[.slice none 0 0, .int .u8 0, .int .u8 0]) ∧ w = w' := by
  go_enter Try.func21, Try.ntmps21
  go_wp2
  go_ret3
  exact ⟨rfl, rfl⟩
theorem zspan_0 (w : World) : Calls Try.prog 8 #[.slice none 0 0, .int .i64 0, .int .i64 0] w fun e w' => e = .returned (.tuple #[.slice none 0 0, .int .u8 0, .int .u8 0]) ∧ w = w' := by
  go_enter Try.func8, Try.ntmps8
  go_wp2_with (go_at_call 21; refine (span_0 _).mono ?_; rintro e w' ⟨rfl, rfl⟩)
  go_ret3
  exact ⟨rfl, rfl⟩
theorem window_0 (w : World) : Calls Try.prog 9 #[.slice none 0 0, .int .i64 0, .int .i64 0, .slice none 0 0, .int .u8 0, .int .u8 0] w fun e w' => e = .returned (.bool true) ∧ w = w' := by
  go_enter Try.func9, Try.ntmps9
  go_wp2
  refine wp_loop_rounds 1 ?_
  rw [rounds_succ]
  go_wp2
  go_ret
  exact ⟨rfl, rfl⟩
theorem bytes1_0 (w : World) :
    Calls Try.prog 7 #[.slice none 0 0, .int .i64 0, .int .i64 0, .int .i64 0] w fun e w' => e = .returned (.bool true) ∧ w = w' := by
  go_enter Try.func7, Try.ntmps7
  go_wp2
  go_ret
  exact ⟨rfl, rfl⟩
set_option maxRecDepth 100000 in
set_option maxHeartbeats 1000000 in
theorem cut_none (w : World) :
    Calls Try.prog 3 #[.slice none 0 0, .int .i64 0, .int .i64 0, .int .i64 0] w fun e w' => e = .returned (.bool true) ∧ Below w.heap.size w w' := by
  go_enter Try.func3, Try.ntmps3
  go_wp2_with (first
    | (go_at_call 7; refine (bytes1_0 _).mono ?_; rintro e w' ⟨rfl, rfl⟩)
    | (go_at_call 8; refine (zspan_0 _).mono ?_; rintro e w' ⟨rfl, rfl⟩)
    | (go_at_call 9; refine (window_0 _).mono ?_; rintro e w' ⟨rfl, rfl⟩))
  refine wp_loop_rounds 1 ?_
  rw [rounds_succ]
  go_wp2
  go_ret
  exact ⟨rfl, Below.refl _ _⟩


set_option maxRecDepth 100000 in
set_option maxHeartbeats 1000000 in
theorem cut_out (a : Option Addr) (n c : Nat) (x y z : Int) (w : World) (hn : n ≤ 1048576) (h : x < 0 ∨ y < x ∨ z < y ∨ 8 * (n : Int) < z) :
    Calls Try.prog 3 #[.slice a n c, .int .i64 x, .int .i64 y, .int .i64 z] w fun e w' => e = .returned (.bool true) ∧ Below w.heap.size w w' := by
  by_cases g1 : x < 0
  · clear h
    go_enter Try.func3, Try.ntmps3
    go_wp2_with (go_at_call 7; refine (bytes1_yes _ _ _ _ _ _ _ hn).mono ?_; rintro e w' ⟨rfl, rfl⟩)
    go_ret
    exact ⟨rfl, Below.refl _ _⟩
  by_cases g2 : y < x
  · clear h
    go_enter Try.func3, Try.ntmps3
    go_wp2_with (go_at_call 7; refine (bytes1_yes _ _ _ _ _ _ _ hn).mono ?_; rintro e w' ⟨rfl, rfl⟩)
    go_ret
    exact ⟨rfl, Below.refl _ _⟩
  by_cases g3 : z < y
  · clear h
    go_enter Try.func3, Try.ntmps3
    go_wp2_with (go_at_call 7; refine (bytes1_yes _ _ _ _ _ _ _ hn).mono ?_; rintro e w' ⟨rfl, rfl⟩)
    go_ret
    exact ⟨rfl, Below.refl _ _⟩
  · have g4 : 8 * (n : Int) < z := by omega
    clear h
    go_enter Try.func3, Try.ntmps3
    go_wp2_with (go_at_call 7; refine (bytes1_yes _ _ _ _ _ _ _ hn).mono ?_; rintro e w' ⟨rfl, rfl⟩)
    go_ret
    exact ⟨rfl, Below.refl _ _⟩

theorem cut_big (a : Option Addr) (n c : Nat) (x y z : Int) (w : World) (hn : ¬ n ≤ 1048576) (hm : n ≤ maxLen) :
    Calls Try.prog 3 #[.slice a n c, .int .i64 x, .int .i64 y, .int .i64 z] w fun e w' => e = .returned (.bool true) ∧ Below w.heap.size w w' := by
  go_enter Try.func3, Try.ntmps3
  go_wp2_with (go_at_call 7; refine (bytes1_no _ _ _ _ _ _ _ hn hm).mono ?_; rintro e w' ⟨rfl, rfl⟩)
  go_ret
  exact ⟨rfl, Below.refl _ _⟩
end Go.Proofs.Qxb6614154a
