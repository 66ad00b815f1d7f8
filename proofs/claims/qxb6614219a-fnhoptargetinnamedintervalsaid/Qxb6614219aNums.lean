import Derived.Test.Qxb6614219aIds
namespace Go.Proofs.Qxb6614219a
open Go.RowKit

/-! ### Identifiers as numbers -/
/-- Byte i of the twenty that spell N, the greatest first. -/
def byteAt (N i : Nat) : Nat := N / 256 ^ (19 - i) % 256
def idL (N : Nat) : List Value := (List.range 20).map fun i => .int .u8 ((byteAt N i : Nat) : Int)

theorem idL_len (N : Nat) : (idL N).length = 20 := by simp [idL]
theorem id20 (N : Nat) : Id20 (idL N) := ⟨idL_len N, by simp [idL, Value.oneCell']⟩
theorem idL_get (N i : Nat) (h : i < 20) : (idL N)[i]? = some (.int .u8 ((byteAt N i : Nat) : Int)) := by simp [idL, h]

theorem id_words (hi mid low : Int) (N : Nat) (h0 : 0 ≤ hi) (h1 : hi < 4294967296) (h2 : 0 ≤ mid) (h3 : mid < 18446744073709551616) (h4 : 0 ≤ low) (h5 : low < 18446744073709551616)
    (hN : (N : Int) = hi * 340282366920938463463374607431768211456 + mid * 18446744073709551616 + low) : be4 hi ++ be8 mid ++ be8 low = idL N := by
  have e : idL N = [0, 1, 2, 3, 4, 5, 6, 7, 8, 9, 10, 11, 12, 13, 14, 15, 16, 17, 18, 19].map fun i => .int .u8 ((byteAt N i : Nat) : Int) := rfl
  rw [e]
  simp only [be4, be8, List.map_cons, List.map_nil, List.cons_append, List.nil_append, byteAt, Nat.reduceSub, Nat.reducePow]
  simp only [List.cons.injEq, Value.int.injEq, true_and, and_true]
  refine ⟨?_, ?_, ?_, ?_, ?_, ?_, ?_, ?_, ?_, ?_, ?_, ?_, ?_, ?_, ?_, ?_, ?_, ?_, ?_, ?_⟩ <;> omega

/-- (idWords).id, by its number. -/
theorem id_num (hi mid low : Int) (N : Nat) (w : World) (h0 : 0 ≤ hi) (h1 : hi < 4294967296) (h2 : 0 ≤ mid) (h3 : mid < 18446744073709551616) (h4 : 0 ≤ low) (h5 : low < 18446744073709551616)
    (hN : (N : Int) = hi * 340282366920938463463374607431768211456 + mid * 18446744073709551616 + low) :
    Calls Try.prog 38 #[.agg #[.int .u32 hi, .int .u64 mid, .int .u64 low]] w fun e w' => e = .returned (.agg (idL N).toArray) ∧ Below w.heap.size w w' := by
  rw [← id_words hi mid low N h0 h1 h2 h3 h4 h5 hN]
  exact id_any hi mid low w h0 h1 h2 h3 h4 h5

theorem shr_eq (v : Int) (c : Int) (n : Nat) (r : Int) (h0 : c = n) (hr : v / 2 ^ min n 64 = r) : Op.shift .shr .u64 v .i64 c = pure (.int .u64 r) := by
  subst h0
  rw [shift_shr_any _ _ _ _ (by omega)]
  simp only [IntKind.bits, Int.toNat_natCast]
  rw [hr]
theorem shl_eq (v : Int) (c : Int) (n : Nat) (r : Int) (h0 : c = n) (hr : v * 2 ^ min n 64 % 18446744073709551616 = r) : Op.shift .shl .u64 v .i64 c = pure (.int .u64 r) := by
  subst h0
  rw [shift_shl_any _ _ _ _ (by omega)]
  simp only [IntKind.bits, Int.toNat_natCast]
  rw [← hr]
  simp [IntKind.wrap, IntKind.bits, IntKind.signed]

theorem wrap_i64 (c : Int) (h0 : -100000 ≤ c) (h1 : c ≤ 100000) : IntKind.i64.wrap c = c := by
  rw [IntKind.wrap_i64]; omega

theorem store25 {W : World} {g : Nat} {old cs : List Value} {t : TypeId} (hr : Row W g old t) (ho : old.length = 20) (hc : Id20 cs) :
    (Instr.storeAt 25 (.pointer (some ⟨g, 0, none⟩)) (.agg cs.toArray)).run Try.prog W = .ok () (W.setRow g cs.toArray) := by
  have := run_storeVar_row (P := Try.prog) W g t 25 old.toArray cs.toArray hr hc.size25 (by simp [ho, hc.1]) hc.all
  simp only [Instr.storeAt, Instr.sureAddr, Sem.run_bind, Sem.run_pure, Result.andThen_ok, this]
theorem load25 {W : World} {g : Nat} {cs : List Value} {t : TypeId} (hr : Row W g cs t) (hc : Id20 cs) :
    (Instr.loadAt 25 (.pointer (some ⟨g, 0, none⟩))).run Try.prog W = .ok (.agg cs.toArray) W := by
  have := run_loadVar_row (P := Try.prog) W g t 25 cs.toArray (0, 0) _ hr Try.underlying25 rfl hc.size25
  simp only [Instr.loadAt, Instr.sureAddr, Sem.run_bind, Sem.run_pure, Result.andThen_ok, this]

theorem Row.there {w : World} {g : Nat} {cs : List Value} {t : TypeId} (h : Row w g cs t) {n : Nat} (hn : n ≤ cs.length) : w.there g 0 n := fun j hj => by
  rw [Nat.zero_add]
  exact ⟨by rw [h.cell' j (by omega)]; rfl, h.free j⟩
theorem there_below {w w' : World} {g n : Nat} (h : w.there g 0 n) (hb : Below w.drew.heap.size w.drew w') : w'.there g 0 n := fun j hj => by
  obtain ⟨h1, h2⟩ := h j hj
  obtain ⟨u, hu⟩ := Option.isSome_iff_exists.1 h1
  have hlt := World.block_lt_of_cell? w _ hu
  exact ⟨by rw [hb.cell hlt]; exact h1, by rw [hb.frozen hlt]; exact h2⟩

theorem splice_all {α : Type} (cs ds : List α) (h : cs.length ≤ ds.length) : splice cs 0 ds = ds := by
  unfold splice
  rw [List.drop_eq_nil_of_le (by omega)]; simp

theorem pow_split (v s k : Nat) (h : s ≤ k) : v * 2 ^ s / 2 ^ k = v / 2 ^ (k - s) := by
  have : (2 : Nat) ^ k = 2 ^ (k - s) * 2 ^ s := by rw [← Nat.pow_add]; congr 1; omega
  rw [this, Nat.mul_div_mul_right _ _ (Nat.two_pow_pos s)]

theorem lo_num (v s : Nat) (hv : v < 18446744073709551616) (hs : s < 64) :
    v * 2 ^ s = v / 2 ^ (64 - s) * 18446744073709551616 + v * 2 ^ s % 18446744073709551616 ∧ v / 2 ^ (64 - s) < 18446744073709551616 ∧ v * 2 ^ s % 1461501637330902918203684832716283019655932542976 = v * 2 ^ s := by
  have e := pow_split v s 64 (by omega)
  have e64 : (2 : Nat) ^ 64 = 18446744073709551616 := by decide
  rw [e64] at e
  have h1 : v / 2 ^ (64 - s) ≤ v := Nat.div_le_self _ _
  have h2 : v * 2 ^ s / 18446744073709551616 < 18446744073709551616 := by rw [e]; omega
  refine ⟨by rw [← e]; omega, by omega, Nat.mod_eq_of_lt (by omega)⟩

set_option maxRecDepth 100000 in
set_option maxHeartbeats 400000 in
theorem shifted_lo (v s : Nat) (w : World) (h1 : v < 18446744073709551616) (hs : s < 64) :
    Calls Try.prog 28 #[.int .u64 v, .int .i64 s] w fun e w' => e = .returned (.agg (idL (v * 2 ^ s % 1461501637330902918203684832716283019655932542976)).toArray) ∧ Below w.heap.size w w' := by
  have hs' : (s : Int) < 64 := by omega
  obtain ⟨n1, n2, n3⟩ := lo_num v s h1 hs
  have hx := wrap_i64 (128 - (s : Int)) (by omega) (by omega)
  have hy := wrap_i64 (64 - (s : Int)) (by omega) (by omega)
  obtain ⟨A, hA⟩ : ∃ A : Nat, A = v / 2 ^ (64 - s) := ⟨_, rfl⟩
  obtain ⟨L, hL⟩ : ∃ L : Nat, L = v * 2 ^ s % 18446744073709551616 := ⟨_, rfl⟩
  have s1 : Op.shift .shr .u64 v .i64 (128 - (s : Int)) = pure (.int .u64 0) := by
    refine shr_eq v _ (128 - s) 0 (by omega) ?_
    rw [show min (128 - s) 64 = 64 by omega]
    have : (2 : Int) ^ 64 = 18446744073709551616 := by decide
    rw [this]; omega
  have s2 : Op.shift .shr .u64 v .i64 (64 - (s : Int)) = pure (.int .u64 A) := by
    refine shr_eq v _ (64 - s) A (by omega) ?_
    rw [show min (64 - s) 64 = 64 - s by omega, hA]
    simp
  have s3 : Op.shift .shl .u64 v .i64 (s : Int) = pure (.int .u64 L) := by
    refine shl_eq v _ s L rfl ?_
    rw [show min s 64 = s by omega, hL]
    simp
  have s5 : (v : Int) / 2 ^ (64 - s) = A := by rw [hA]; simp
  have s6 : IntKind.u32.wrap 0 = 0 := by decide
  have s4 : IntKind.u64.wrap ((v : Int) * 2 ^ s) = L := by
    rw [hL]; simp [IntKind.wrap, IntKind.bits, IntKind.signed]
  obtain ⟨N, hN⟩ : ∃ N : Nat, N = v * 2 ^ s % 1461501637330902918203684832716283019655932542976 := ⟨_, rfl⟩
  have hNn : (N : Int) = 0 * 340282366920938463463374607431768211456 + A * 18446744073709551616 + L := by
    have : N = A * 18446744073709551616 + L := by rw [hN, n3, hA, hL]; exact n1
    omega
  have HN : Hid _ := hN
  have HNn : Hid _ := hNn
  have a0 : (0 : Int) ≤ A := by omega
  have a1 : (A : Int) < 18446744073709551616 := by rw [hA]; exact Int.ofNat_lt.2 n2
  have l0 : (0 : Int) ≤ L := by omega
  have l1 : (L : Int) < 18446744073709551616 := by rw [hL]; omega
  clear n1 n2 n3 hA hL hN hNn h1
  go_enter Try.func28, Try.ntmps28
  go_upto_region 1 with fail
  go_cut [5] (fun p W => p = .bool true ∧ Row W w.heap.size zeros20 25 ∧ Below w.heap.size w W)
  case first =>
    go_wp2
    go_meet
    case rel => exact ⟨rfl, row_new _ zeros20 _ _ rfl, (Below.refl _ _).alloc (Nat.le_refl _) _⟩
  case rest =>
    obtain ⟨rfl, r0, hb⟩ := hcut
    go_upto_region 2 with fail
    go_cut [] (fun W => Row W w.heap.size (idL N) 25 ∧ Below w.heap.size w W)
    case first =>
      have hu := Try.underlying25
      have hsz : (Try.prog.info? 25).map (·.size) = some (idL N).length := by rw [idL_len]; exact size25
      have hln := idL_len N
      have hone := (id20 N).2
      have ht : wc.there w.heap.size 0 20 := r0.there (by simp [zeros20])
      go_region_held3 (fun w' => w'.there w.heap.size 0 20) (first | (refine World.there_setCells ?_ _ _ _; exact there_below ht (by assumption)) | (simp only [World.there_drew]; exact ht) | (exact there_below ht (by assumption)))
        (first | (go_at_call 38; refine (id_num _ _ _ N _ ?_ ?_ a0 a1 l0 l1 HNn.out).mono ?_; exact Int.le_refl 0; decide; rintro e w1 ⟨rfl, hb1⟩))
      all_goals (go_wp2_with fail; go_meet)
      all_goals
        have hr1 : Row w1 w.heap.size zeros20 25 := Row.below r0.drew hb1 r0.lt
        obtain ⟨e1, e2⟩ := row_setCells _ _ (idL N) 0 zeros20 w1 hr1 (by simp [zeros20, idL])
        rw [splice_all zeros20 (idL N) (by simp [zeros20, idL])] at e1
        exact ⟨e1, (hb.drew.trans (hb1.mono (by simpa using hb.size))).grown e2 (Nat.le_trans (by simpa using hb.size) (by simpa using hb1.size)) (by simp)⟩
    case rest =>
      obtain ⟨r1, hb⟩ := hcut
      go_wp2
      refine bodyPost_ret (v := .agg (idL N).toArray) (results_cell_row Try.results28 _ _ w.heap.size 25 (idL N).toArray (0, 0) _ rfl r1 Try.underlying25 rfl (id20 N).size25) rfl ⟨?_, hb⟩
      rw [HN.out]
end Go.Proofs.Qxb6614219a
