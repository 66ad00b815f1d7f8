import Derived.Test.Qxb6614219aNums
namespace Go.Proofs.Qxb6614219a
open Go.RowKit

theorem two_pow8 (k : Nat) : 256 ^ k = 2 ^ (8 * k) := by rw [Nat.pow_mul]
/-- A bit of N, out of the byte that holds it. -/
theorem bit_byte (N q : Nat) (h : q < 160) : byteAt N (19 - q / 8) / 2 ^ (q % 8) % 2 = N / 2 ^ q % 2 := by
  unfold byteAt
  have e : 19 - (19 - q / 8) = q / 8 := by omega
  rw [e, two_pow8]
  have e2 : (256 : Nat) = 2 ^ 8 := by decide
  rw [e2]
  have h1 : (N / 2 ^ (8 * (q / 8)) % 2 ^ 8).testBit (q % 8) = N.testBit q := by
    rw [Nat.testBit_mod_two_pow, Nat.testBit_div_two_pow]
    have : q % 8 + 8 * (q / 8) = q := by omega
    rw [this]; simp; omega
  have h2 : ∀ x i : Nat, x / 2 ^ i % 2 = (x.testBit i).toNat := fun x i => by
    rw [Nat.testBit_eq_decide_div_mod_eq]
    by_cases hh : x / 2 ^ i % 2 = 1 <;> simp [hh]
    omega
  rw [h2, h2, h1]

/-- One round of 'field': the next lower bit is taken in. -/
theorem field_step (N p k : Nat) : N / 2 ^ (p + 1) % 2 ^ k * 2 + N / 2 ^ p % 2 = N / 2 ^ p % 2 ^ (k + 1) := by
  rw [Nat.pow_succ, Nat.pow_succ, ← Nat.div_div_eq_div_mul]
  generalize N / 2 ^ p = M
  rw [Nat.mul_comm (2 ^ k) 2, Nat.mod_mul]; omega

theorem and_one (y j : Nat) (hy : y < 256) : bits .and .u8 ((y : Int) / 2 ^ j) 1 = ((y / 2 ^ j % 2 : Nat) : Int) := by
  have h : y / 2 ^ j < 256 := Nat.lt_of_le_of_lt (Nat.div_le_self _ _) hy
  have := u8_and_nat (y / 2 ^ j) 1 h (by decide)
  rw [nat_mask1] at this
  rw [← this]; simp
theorem or_bit (V y j : Nat) (hV : V < 9223372036854775808) (hy : y < 256) :
    bits .or .u64 ((V : Int) * 2) (IntKind.u64.wrap (bits .and .u8 ((y : Int) / 2 ^ j) 1)) = ((V * 2 + y / 2 ^ j % 2 : Nat) : Int) := by
  rw [and_one y j hy]
  have hb : y / 2 ^ j % 2 < 2 := Nat.mod_lt _ (by decide)
  have e : IntKind.u64.wrap ((y / 2 ^ j % 2 : Nat) : Int) = ((y / 2 ^ j % 2 : Nat) : Int) := by
    have : ∀ x : Int, IntKind.u64.wrap x = x % 18446744073709551616 := fun x => by simp [IntKind.wrap, IntKind.bits, IntKind.signed]
    rw [this]; omega
  rw [e]
  generalize y / 2 ^ j % 2 = b at hb
  have := u64_or_nat (V * 2) b (by omega) (by omega)
  rw [nat_join 1 (V * 2) b (by omega) (by omega)] at this
  rw [← this]; simp

set_option maxHeartbeats 400000 in
theorem field_any (N pos width : Nat) (w : World) (hw : width ≤ 64) (hp : pos + width ≤ 160) :
    Calls Try.prog 30 #[.agg (idL N).toArray, .int .i64 pos, .int .i64 width] w fun e w' => e = .returned (.int .u64 ((N / 2 ^ pos % 2 ^ width : Nat) : Int)) ∧ Below w.heap.size w w' := by
  go_enter Try.func30, Try.ntmps30
  go_upto_region 1 with fail
  go_cut [7] (fun x W => x = .int .u64 0 ∧ Row W w.heap.size (idL N) 25 ∧ Below w.heap.size w W)
  case first =>
    go_wp2
    go_meet
    case rel => exact ⟨rfl, row_new _ (idL N) _ _ rfl, (Below.refl _ _).alloc (Nat.le_refl _) _⟩
  case rest =>
    obtain ⟨rfl, r0, hb⟩ := hcut
    go_wp2
    go_loop [7, 8] (fun x t => ∃ k : Nat, k ≤ width ∧ t = .int .i64 ((pos : Int) + width - 1 - k) ∧ x = .int .u64 ((N / 2 ^ (pos + width - k) % 2 ^ k : Nat) : Int)) (fun _ t => ((intOf t) - pos + 1).toNat)
    case atStart => exact ⟨0, Nat.zero_le _, by go_num, by simp [Nat.mod_one]⟩
    case round =>
      obtain ⟨k, hk, rfl, rfl⟩ := hrel
      by_cases hlt : k < width
      · obtain ⟨q, hq⟩ : ∃ q : Nat, (pos : Int) + width - 1 - k = q := ⟨pos + width - 1 - k, by omega⟩
        obtain ⟨V, hV⟩ : ∃ V : Nat, V = N / 2 ^ (pos + width - k) % 2 ^ k := ⟨_, rfl⟩
        obtain ⟨y, hy⟩ : ∃ y : Nat, y = byteAt N (19 - q / 8) := ⟨_, rfl⟩
        have hc : wc.cell? ⟨w.heap.size, 19 - q / 8, none⟩ = some (.int .u8 (y : Int)) := by rw [r0.cell, idL_get _ _ (by omega), hy]
        have hV2 : (V : Int) < 9223372036854775808 := by
          have h1 : V < 2 ^ k := by rw [hV]; exact Nat.mod_lt _ (Nat.two_pow_pos k)
          have h2 : (2 : Nat) ^ k ≤ 2 ^ 63 := Nat.pow_le_pow_right (by decide) (by omega)
          have : (2 : Nat) ^ 63 = 9223372036854775808 := by decide
          omega
        have hy2 : (y : Int) < 256 := by rw [hy]; unfold byteAt; omega
        have hq1 : (q : Int) < 160 := by omega
        have hq2 : (pos : Int) ≤ q := by omega
        rw [← hV, hq]
        have HV : Hid _ := hV
        have HQ : Hid _ := hq
        have HY : Hid _ := hy
        clear hV hq hy r0 hb
        go_wp2
        go_round
        case rel =>
          have hq := HQ.out
          have e1 : pos + width - (k + 1) = q := by omega
          have e2 : pos + width - k = q + 1 := by omega
          refine ⟨k + 1, by omega, by go_num, ?_⟩
          rw [or_bit V y (q % 8) (by omega) (by omega), HY.out, bit_byte N q (by omega), HV.out, e1, e2, field_step]
        case measure => simp [intOf]; omega
      · have e : width = k := by omega
        go_wp2
        go_ret
        refine ⟨?_, hb⟩
        subst e
        first | rfl | (simp; done)

/-- ZZfield. -/
theorem zfield_any (N pos width : Nat) (w : World) (hw : width ≤ 64) (hp : pos + width ≤ 160) :
    Calls Try.prog 15 #[.agg (idL N).toArray, .int .i64 pos, .int .i64 width] w fun e w' => e = .returned (.int .u64 ((N / 2 ^ pos % 2 ^ width : Nat) : Int)) ∧ Below w.heap.size w w' := by
  go_enter Try.func15, Try.ntmps15
  go_wp2_with (first
    | refine wpList_load_row rfl 25 _ rfl w.heap.size rfl 25 (idL N).toArray (0, 0) _ (row_new _ (idL N) _ _ rfl) Try.underlying25 rfl (id20 N).size25 ?_
    | (go_at_call 30; refine (field_any N pos width _ hw hp).mono ?_; rintro e w' ⟨rfl, hb1⟩))
  go_ret
  exact ⟨rfl, ((Below.refl _ _).alloc (Nat.le_refl _) _).trans (hb1.mono (by simp))⟩

/-- IDFromUint64. -/
theorem fromUint_any (v : Nat) (w : World) (hv : v < 18446744073709551616) :
    Calls Try.prog 11 #[.int .u64 v] w fun e w' => e = .returned (.agg (idL v).toArray) ∧ Below w.heap.size w w' := by
  have hc := shifted_lo v 0
  have hid := id20 v
  rw [show v * 2 ^ 0 % 1461501637330902918203684832716283019655932542976 = v by omega] at hc
  have HC : Hid _ := hc
  clear hc
  go_enter Try.func11, Try.ntmps11
  go_wp2_with (first
    | (go_at_call 28; refine (HC.out _ hv (by decide)).mono ?_; rintro e w' ⟨rfl, hb1⟩; have hr : Row w' w.heap.size zeros20 25 := Row.below (row_new _ zeros20 _ _ rfl) hb1 (by simp))
    | refine wpList_store_row rfl 25 _ _ rfl w.heap.size (idL v).toArray rfl rfl 25 _ hr hid.size25 (by simp [zeros20, hid.1]) hid.all ?_)
  refine bodyPost_ret (v := .agg (idL v).toArray) (results_cell_row Try.results11 _ _ w.heap.size 25 (idL v).toArray (0, 0) _ rfl hr.setRow Try.underlying25 rfl hid.size25) rfl ⟨rfl, ?_⟩
  exact below_setRow (((Below.refl _ _).alloc (Nat.le_refl _) _).trans (hb1.mono (by simp))) (Nat.le_refl _) _


/-- A load of a whole row under a guard that says yes. -/
theorem wpList_load_row_g {P : Program} {ops : Array Oper} {rest : List Oper} {o : Oper} {a : Act} {w : World} {Q : Exit → Act → World → Prop} (hw : Region.wanted o (yielded ops a.tmps) = true) (ty : TypeId) (x : Operand) (ho : o.op = .load ty x)
    (g : Nat) (hx : a.eval x = .pointer (some ⟨g, 0, none⟩)) (t : TypeId) (cs : Array Value) (fr : Nat × Nat) (d : TypeDesc) (hg : w.heap[g]? = some (.cells cs t fr))
    (hu : P.underlying ty = some d) (hd : (match d with | .struct _ | .array _ _ => true | _ => false) = true) (hi : (P.info? ty).map (·.size) = some cs.size)
    (h : wpList P ops Q rest (a.put o.dst (.agg cs)) w) : wpList P ops Q (o :: rest) a w :=
  wpList_step fun _ hK => by rw [if_pos hw]; exact wp_load_row ty x ho g hx t cs fr d hg hu hd hi (hK _ _ h)

theorem field_lo (v : Nat) (w : World) (hv : v < 18446744073709551616) :
    Calls Try.prog 15 #[.agg (idL v).toArray, .int .i64 0, .int .i64 64] w fun e w' => e = .returned (.int .u64 (v : Int)) ∧ Below w.heap.size w w' := by
  have := zfield_any v 0 64 w (by decide) (by decide)
  rw [show v / 2 ^ 0 % 2 ^ 64 = v by simp; omega] at this
  exact this
theorem field_mid (v : Nat) (w : World) (hv : v < 18446744073709551616) :
    Calls Try.prog 15 #[.agg (idL v).toArray, .int .i64 64, .int .i64 64] w fun e w' => e = .returned (.int .u64 0) ∧ Below w.heap.size w w' := by
  have := zfield_any v 64 64 w (by decide) (by decide)
  rw [show v / 2 ^ 64 % 2 ^ 64 = 0 by omega] at this
  exact this
theorem field_hi (v : Nat) (w : World) (hv : v < 18446744073709551616) :
    Calls Try.prog 15 #[.agg (idL v).toArray, .int .i64 128, .int .i64 32] w fun e w' => e = .returned (.int .u64 0) ∧ Below w.heap.size w w' := by
  have := zfield_any v 128 32 w (by decide) (by decide)
  rw [show v / 2 ^ 128 % 2 ^ 32 = 0 by omega] at this
  exact this

set_option maxHeartbeats 400000 in
theorem law4 (v : Nat) (w : World) (hv : v < 18446744073709551616) :
    Calls Try.prog 4 #[.int .u64 v] w fun e w' => e = .returned (.bool true) ∧ Below w.heap.size w w' := by
  have hid := id20 v
  go_enter Try.func4, Try.ntmps4
  go_upto_region 1 with fail
  go_cut [3] (fun p W => ∃ G, p = .pointer (some ⟨G, 0, none⟩) ∧ Row W G (idL v) 25 ∧ Below w.heap.size w W)
  case first =>
    go_wp2_with (first
      | (go_at_call 11; refine (fromUint_any v _ hv).mono ?_; rintro e w1 ⟨rfl, hb1⟩)
      | refine wpList_store_row rfl 25 _ _ rfl w1.heap.size (idL v).toArray rfl rfl 25 _ (row_new w1 zeros20 25 _ rfl) hid.size25 (by simp [zeros20, hid.1]) hid.all ?_)
    go_meet
    case rel => exact ⟨_, rfl, (row_new w1 zeros20 25 _ rfl).setRow, below_setRow (hb1.alloc hb1.size _) hb1.size _⟩
  case rest =>
    obtain ⟨G, rfl, hr, hb⟩ := hcut
    go_wp2_with (first | refine wpList_load_row rfl 25 _ rfl G rfl 25 (idL v).toArray (0, 0) _ hr Try.underlying25 rfl hid.size25 ?_)
    refine (field_lo v _ hv).mono ?_
    rintro e w2 ⟨rfl, hb2⟩
    have hr2 := hr.below hb2 hr.lt
    go_wp2_with (first | refine wpList_load_row_g (by rfl) 25 _ rfl G rfl 25 (idL v).toArray (0, 0) _ hr2 Try.underlying25 rfl hid.size25 ?_)
    refine (field_mid v _ hv).mono ?_
    rintro e w3 ⟨rfl, hb3⟩
    have hr3 := hr2.below hb3 hr2.lt
    go_wp2_with (first | refine wpList_load_row_g (by rfl) 25 _ rfl G rfl 25 (idL v).toArray (0, 0) _ hr3 Try.underlying25 rfl hid.size25 ?_)
    refine (field_hi v _ hv).mono ?_
    rintro e w4 ⟨rfl, hb4⟩
    go_wp2
    go_ret
    have h1 := hb.size
    have h2 := hb2.size
    have h3 := hb3.size
    exact ⟨rfl, ((hb.trans (hb2.mono h1)).trans (hb3.mono (by omega))).trans (hb4.mono (by omega))⟩
end Go.Proofs.Qxb6614219a
