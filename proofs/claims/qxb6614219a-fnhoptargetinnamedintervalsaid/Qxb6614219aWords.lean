import Derived.Test.Qxb6614219aReads
import Derived.Shelf.Spec.BitsCarry
namespace Go.Proofs.Qxb6614219a
open Go.RowKit

/-- Since wc nothing that was there has turned but block r, whose first n cells are there and may be written. -/
structure Kp (wc : World) (r n : Nat) (w' : World) : Prop where
  grow : wc.grownBy w' (some r)
  room : w'.there r 0 n
theorem Kp.start {wc : World} {r n : Nat} (h : wc.there r 0 n) : Kp wc r n wc.drew := ⟨⟨rfl, rfl, rfl, Nat.le_refl _, fun _ _ _ => rfl⟩, h⟩
theorem there_below' {w w' : World} {g n : Nat} (h : w.there g 0 n) (hb : Below w.heap.size w w') : w'.there g 0 n := fun j hj => by
  obtain ⟨h1, h2⟩ := h j hj
  obtain ⟨u, hu⟩ := Option.isSome_iff_exists.1 h1
  have hlt := World.block_lt_of_cell? w _ hu
  exact ⟨by rw [hb.cell hlt]; exact h1, by rw [hb.frozen hlt]; exact h2⟩
theorem grown_below {wc W w' : World} {k : Option Nat} (h : wc.grownBy W k) (hb : Below W.heap.size W w') : wc.grownBy w' k :=
  ⟨hb.os.trans h.os, hb.tape.trans h.tape, hb.output.trans h.output, Nat.le_trans h.size hb.size, fun i hi hk => (hb.block i (Nat.lt_of_lt_of_le hi h.size)).trans (h.block i hi hk)⟩
theorem Kp.call {wc W w' : World} {r n : Nat} (h : Kp wc r n W) (hb : Below W.heap.size W w') : Kp wc r n w' := ⟨grown_below h.grow hb, there_below' h.room hb⟩
theorem Kp.row {wc W : World} {r n g t : Nat} {cs : List Value} (h : Kp wc r n W) (hr : Row wc g cs t) (hg : g ≠ r) : Row W g cs t := hr.grown h.grow (by simpa using hg)
theorem Kp.setCells {wc W : World} {r n : Nat} (h : Kp wc r n W) (o : Nat) (vs : List Value) : Kp wc r n (W.setCells r o vs) := by
  refine ⟨?_, World.there_setCells h.room _ _ _⟩
  have : ∀ (vs : List Value) (o : Nat) (W : World), W.grownBy (W.setCells r o vs) (some r) := by
    intro vs
    induction vs with
    | nil => exact fun _ _ => World.grownBy.refl _ _
    | cons v vs ih => exact fun o W => grown_trans (grown_setCell W r o v) (ih (o + 1) _)
  exact grown_trans h.grow (this vs o W)

theorem Kp.setCell {wc W : World} {r n : Nat} (h : Kp wc r n W) (i : Nat) (v : Value) : Kp wc r n (W.setCell ⟨r, i, none⟩ v) := h.setCells i [v]
theorem Kp.cells3 {wc W : World} {r : Nat} (h : Kp wc r 3 W) : ∃ x0 x1 x2, W.cell? ⟨r, 0, none⟩ = some x0 ∧ W.cell? ⟨r, 1, none⟩ = some x1 ∧ W.cell? ⟨r, 2, none⟩ = some x2 ∧
    W.frozen? ⟨r, 0, none⟩ = false ∧ W.frozen? ⟨r, 1, none⟩ = false ∧ W.frozen? ⟨r, 2, none⟩ = false := by
  obtain ⟨a0, f0⟩ := h.room 0 (by decide)
  obtain ⟨a1, f1⟩ := h.room 1 (by decide)
  obtain ⟨a2, f2⟩ := h.room 2 (by decide)
  obtain ⟨x0, e0⟩ := Option.isSome_iff_exists.1 a0
  obtain ⟨x1, e1⟩ := Option.isSome_iff_exists.1 a1
  obtain ⟨x2, e2⟩ := Option.isSome_iff_exists.1 a2
  exact ⟨x0, x1, x2, e0, e1, e2, f0, f1, f2⟩

set_option maxRecDepth 100000 in
set_option maxHeartbeats 1000000 in
theorem words_any (N : Nat) (w : World) :
    Calls Try.prog 36 #[.agg (idL N).toArray] w fun e w' => e = .returned (.agg #[.int .u32 (hiW N : Nat), .int .u64 (midW N : Nat), .int .u64 (lowW N : Nat)]) ∧ Below w.heap.size w w' := by
  go_enter Try.func36, Try.ntmps36
  go_upto_region 0 with fail
  go_cut [1, 2] (fun p q W => p = .pointer (some ⟨w.heap.size, 0, none⟩) ∧ q = .pointer (some ⟨w.heap.size + 1, 0, none⟩) ∧ Row W w.heap.size (idL N) 25 ∧ Row W (w.heap.size + 1) [.int .u32 0, .int .u64 0, .int .u64 0] 108 ∧ Below w.heap.size w W)
  case first =>
    go_wp2
    go_meet
    case rel => exact ⟨rfl, rfl, (row_new _ (idL N) _ _ rfl).alloc _, row_new _ _ _ _ (by simp), ((Below.refl _ _).alloc (Nat.le_refl _) _).alloc (by simp) _⟩
  case rest =>
    obtain ⟨rfl, rfl, r0, r1, hb⟩ := hcut
    have ht : wc.there (w.heap.size + 1) 0 3 := r1.there (by simp)
    have HT : Hid _ := ht
    clear ht
    go_upto_region 1 with fail
    go_region_held3 (fun w' => Kp wc (w.heap.size + 1) 3 w') (first | (refine Kp.setCell (Kp.setCell (Kp.setCell ?_ _ _) _ _) _ _; assumption) | (refine Kp.call (by assumption) (by assumption)) | exact Kp.start HT.out)
      (first
        | (go_at_call 44; refine (get_hi (N := N) (Kp.row (by assumption) r0 (by omega))).mono ?_; rintro e w1 ⟨rfl, hb1⟩)
        | (go_at_call_of 45 (Value.slice (some ⟨w.heap.size, 4, none⟩) 8 16); refine (get_mid (N := N) (Kp.row (by assumption) r0 (by omega))).mono ?_; rintro e w2 ⟨rfl, hb2⟩)
        | (go_at_call_of 45 (Value.slice (some ⟨w.heap.size, 12, none⟩) 8 8); refine (get_low (N := N) (Kp.row (by assumption) r0 (by omega))).mono ?_; rintro e w3 ⟨rfl, hb3⟩; obtain ⟨x0, x1, x2, e0, e1, e2, f0, f1, f2⟩ := Kp.cells3 (Kp.call (wc := wc) (r := w.heap.size + 1) (n := 3) (by assumption) hb3)))
    have hk : Kp wc (w.heap.size + 1) 3 (((w3.setCell ⟨w.heap.size + 1, 0, none⟩ (.int .u32 (hiW N : Nat))).setCell ⟨w.heap.size + 1, 1, none⟩ (.int .u64 (midW N : Nat))).setCell ⟨w.heap.size + 1, 2, none⟩ (.int .u64 (lowW N : Nat))) := by assumption
    have HK : Hid _ := hk.grow
    clear hk
    go_wp2
    refine bodyPost_ret (v := .agg #[.int .u32 (hiW N : Nat), .int .u64 (midW N : Nat), .int .u64 (lowW N : Nat)]) (by simp [results, Try.results36, go_sem, e0, e1, e2]) rfl ⟨rfl, ?_⟩
    exact hb.grown HK.out hb.size (by simp)

/-- Sub64's difference and borrow. -/
def dif (x y b : Nat) : Nat := (x + 18446744073709551616 - y - b) % 18446744073709551616
def bor (x y b : Nat) : Nat := if x < y + b then 1 else 0
theorem bor_le (x y b : Nat) : bor x y b ≤ 1 := by unfold bor; split <;> omega
theorem sub64 (x y b : Nat) (hb : b ≤ 1) (w : World) : (callFunc 46 #[.int .u64 x, .int .u64 y, .int .u64 b]).run Try.prog w =
    .ok (.value (.tuple #[.int .u64 (dif x y b : Nat), .int .u64 (bor x y b : Nat)])) w := by
  rw [run_callFunc_extern Try.func46 (by kernel_rfl) (by kernel_rfl) (by kernel_rfl) (e := sub64Entry) (by kernel_rfl), run_sub64 x y b hb]
  rfl
theorem sub64_0 (x y : Nat) (w : World) : (callFunc 46 #[.int .u64 x, .int .u64 y, .int .u64 0]).run Try.prog w =
    .ok (.value (.tuple #[.int .u64 (dif x y 0 : Nat), .int .u64 (bor x y 0 : Nat)])) w := sub64 x y 0 (by decide) w

set_option maxHeartbeats 400000 in
theorem minus_any (ah am al bh bm bl H : Nat) (w : World) (hH : ((ah : Int) - bh - (bor am bm (bor al bl 0) : Nat)) % 4294967296 = H) :
    Calls Try.prog 37 #[.agg #[.int .u32 ah, .int .u64 am, .int .u64 al], .agg #[.int .u32 bh, .int .u64 bm, .int .u64 bl]] w fun e w' =>
      e = .returned (.agg #[.int .u32 H, .int .u64 (dif am bm (bor al bl 0) : Nat), .int .u64 (dif al bl 0 : Nat)]) ∧ Below w.heap.size w w' := by
  have k1 := bor_le al bl 0
  have HH : Hid _ := hH
  clear hH
  go_enter Try.func37, Try.ntmps37
  go_wp2_with (first | simp only [sub64_0 al bl] | simp only [sub64 am bm (bor al bl 0) k1])
  simp [bodyPost, results, Try.results37, go_sem]
  exact ⟨HH.out, (((Below.refl _ _).alloc (Nat.le_refl _) _).alloc (by simp) _).alloc (by simp; omega) _⟩

/-- (A - B) modulo 2^160. -/
def subN (A B : Nat) : Nat := (A + 1461501637330902918203684832716283019655932542976 - B % 1461501637330902918203684832716283019655932542976) % 1461501637330902918203684832716283019655932542976
def hiS (A B : Nat) : Nat := (hiW A + 4294967296 - hiW B + 4294967296 - bor (midW A) (midW B) (bor (lowW A) (lowW B) 0)) % 4294967296
theorem hiS_eq (A B : Nat) : ((hiW A : Int) - (hiW B : Nat) - (bor (midW A) (midW B) (bor (lowW A) (lowW B) 0) : Nat)) % 4294967296 = (hiS A B : Nat) := by
  have h1 : hiW B < 4294967296 := Nat.mod_lt _ (by decide)
  have h2 := bor_le (midW A) (midW B) (bor (lowW A) (lowW B) 0)
  unfold hiS; omega
theorem sub_num (A B : Nat) : ((subN A B : Nat) : Int) = (hiS A B : Nat) * 340282366920938463463374607431768211456 + (dif (midW A) (midW B) (bor (lowW A) (lowW B) 0) : Nat) * 18446744073709551616 + (dif (lowW A) (lowW B) 0 : Nat) := by
  unfold subN hiS dif bor hiW midW lowW
  by_cases h1 : A % 18446744073709551616 < B % 18446744073709551616 + 0
  · rw [if_pos h1]
    by_cases h2 : A / 18446744073709551616 % 18446744073709551616 < B / 18446744073709551616 % 18446744073709551616 + 1
    · rw [if_pos h2]; omega
    · rw [if_neg h2]; omega
  · rw [if_neg h1]
    by_cases h2 : A / 18446744073709551616 % 18446744073709551616 < B / 18446744073709551616 % 18446744073709551616 + 0
    · rw [if_pos h2]; omega
    · rw [if_neg h2]; omega
theorem dif_lt (x y b : Nat) : dif x y b < 18446744073709551616 := Nat.mod_lt _ (by decide)
theorem hiS_lt (A B : Nat) : hiS A B < 4294967296 := Nat.mod_lt _ (by decide)
end Go.Proofs.Qxb6614219a
