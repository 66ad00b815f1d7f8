import Derived.Test.Qxb6614219aReduce
namespace Go.Proofs.Qxb6614219a
open Go.RowKit
set_option linter.unusedSimpArgs false

theorem size58 : (Try.prog.info? 58).map (·.size) = some 1 := by kernel_rfl

/-- (A - B) modulo 2^(160 - u). -/
def ringN (u A B : Nat) : Nat := subN A B % 2 ^ (160 - u)

set_option maxRecDepth 100000 in
set_option maxHeartbeats 1000000 in
theorem ringSub_any (u A B : Nat) (w : World) (hu : u ≤ 159) :
    Calls Try.prog 34 #[.agg #[.int .i64 u], .agg (idL A).toArray, .agg (idL B).toArray] w fun e w' => e = .returned (.agg (idL (ringN u A B)).toArray) ∧ Below w.heap.size w w' := by
  go_enter Try.func34, Try.ntmps34
  go_upto_region 0 with fail
  go_cut [3, 4, 5, 6] (fun o p q s W => o = .pointer (some ⟨w.heap.size, 0, none⟩) ∧ p = .pointer (some ⟨w.heap.size + 1, 0, none⟩) ∧ q = .pointer (some ⟨w.heap.size + 2, 0, none⟩) ∧ s = .pointer (some ⟨w.heap.size + 3, 0, none⟩) ∧
    Row W w.heap.size [.int .i64 (u : Int)] 58 ∧ Row W (w.heap.size + 1) (idL A) 25 ∧ Row W (w.heap.size + 2) (idL B) 25 ∧ Row W (w.heap.size + 3) zeros20 25 ∧ Below w.heap.size w W)
  case first =>
    go_wp2
    go_meet
    case rel => exact ⟨rfl, rfl, rfl, rfl, (((row_new _ [_] _ _ rfl).alloc _).alloc _).alloc _, ((row_new _ (idL A) _ _ (by simp)).alloc _).alloc _, (row_new _ (idL B) _ _ (by simp)).alloc _, row_new _ zeros20 _ _ (by simp),
      ((((Below.refl _ _).alloc (Nat.le_refl _) _).alloc (by simp) _).alloc (by simp; omega) _).alloc (by simp; omega) _⟩
  case rest =>
    obtain ⟨rfl, rfl, rfl, rfl, r0, r1, r2, r3, hb⟩ := hcut
    have HT : Hid _ := r3.there (n := 20) (by simp [zeros20])
    have R0 : Hid _ := r0
    have R1 : Hid _ := r1
    have R2 : Hid _ := r2
    clear r0 r1 r2
    go_upto_region 1 with fail
    refine wp_region_held_drew (S := Kp wc (w.heap.size + 3) 20) (by kernel_rfl) (Kp.start HT.out) (fun hS => ?_)
    refine wpAnyH_take (i := 0) (v := .agg #[.int .i64 (u : Int)]) rfl (by kernel_rfl) (by kernel_rfl) (by kernel_rfl) (fun _ _ _ h => h)
      (yieldsIf_load_mid (by rfl) 58 _ rfl w.heap.size 0 rfl [.int .i64 (u : Int)] _ (fun w' hw' => (hw'.row R0.out (by omega)).range) Try.underlying58 rfl size58) hS ?_
    simp only [Act.put, List.setIfInBounds_toArray, List.set_cons_zero, List.set_cons_succ]
    refine wpAnyH_take (i := 1) (v := .agg (idL A).toArray) rfl (by kernel_rfl) (by kernel_rfl) (by kernel_rfl) (fun _ _ _ h => h)
      (yieldsIf_load_mid (by rfl) 25 _ rfl (w.heap.size + 1) 0 rfl (idL A) _ (fun w' hw' => (hw'.row R1.out (by omega)).range) Try.underlying25 rfl (sz25 A)) hS ?_
    simp only [Act.put, List.setIfInBounds_toArray, List.set_cons_zero, List.set_cons_succ]
    refine wpAnyH_take (i := 2) (v := .agg (idL B).toArray) rfl (by kernel_rfl) (by kernel_rfl) (by kernel_rfl) (fun _ _ _ h => h)
      (yieldsIf_load_mid (by rfl) 25 _ rfl (w.heap.size + 2) 0 rfl (idL B) _ (fun w' hw' => (hw'.row R2.out (by omega)).range) Try.underlying25 rfl (sz25 B)) hS ?_
    simp only [Act.put, List.setIfInBounds_toArray, List.set_cons_zero, List.set_cons_succ]
    refine wpAnyH_ready (rs := [3]) (by kernel_rfl) (by simp) (AllReadyH.cons rfl (fun K hK => ?_) AllReadyH.nil)
    go_simp
    refine (sub_any A B _).mono ?_
    rintro e w1 ⟨rfl, hb1⟩
    refine hK.out _ _ (hS.call hb1) (fun hS1 => ?_)
    clear hK hS
    refine wpAnyH_ready (rs := [4]) (by kernel_rfl) (by simp) (AllReadyH.cons rfl (fun K hK => ?_) AllReadyH.nil)
    go_simp
    refine (reduce_any (subN A B) u _ hu).mono ?_
    rintro e w2 ⟨rfl, hb2⟩
    refine hK.out _ _ (hS1.call hb2) (fun hS2 => ?_)
    clear hK hS1
    refine wpAnyH_ready (rs := [5]) (by kernel_rfl) (by simp) (AllReadyH.cons rfl (fun K hK => ?_) AllReadyH.nil)
    rw [if_pos (by rfl)]
    refine wp_store_mid 25 _ _ rfl (w.heap.size + 3) 0 (idL (ringN u A B)).toArray rfl rfl (by simpa [idL_len] using hS2.room) (sz25' _) (id20 _).all ?_
    refine hK.out _ _ (hS2.setCells 0 _) (fun hS5 => ?_)
    refine wpAnyH_done (by kernel_rfl) ?_ _
    have q1 := Row.below r3.drew hb1 r3.lt
    have q2 := q1.below hb2 q1.lt
    obtain ⟨q5, -⟩ := row_setCells _ _ (idL (ringN u A B)) 0 zeros20 w2 q2 (by simp [zeros20, idL])
    rw [splice_all zeros20 (idL (ringN u A B)) (by simp [zeros20, idL])] at q5
    have Q5 : Hid _ := q5
    have G5 : Hid _ := hS5.grow
    clear q1 q2 q5 hS2 hS5 hK r3
    simp only [Act.put, List.toList_toArray]
    go_wp2
    refine bodyPost_ret (v := .agg (idL (ringN u A B)).toArray) (results_cell_row Try.results34 _ _ (w.heap.size + 3) 25 (idL (ringN u A B)).toArray (0, 0) _ rfl Q5.out Try.underlying25 rfl (id20 _).size25) rfl ⟨rfl, ?_⟩
    exact hb.grown G5.out hb.size (by simp)

/-- (Ring).Bits. -/
theorem bits_any (u : Nat) (w : World) (hu : u ≤ 159) :
    Calls Try.prog 41 #[.agg #[.int .i64 u]] w fun e w' => e = .returned (.int .i64 (160 - (u : Int))) ∧ Below w.heap.size w w' := by
  have hu' : (u : Int) ≤ 159 := by omega
  go_enter Try.func41, Try.ntmps41
  go_wp2
  go_ret
  exact ⟨rfl, (Below.refl _ _).alloc (Nat.le_refl _) _⟩

theorem keep2 {W w1 : World} {a b : Addr} {x y : Value} (h : W.cell? a = some x ∧ W.cell? b = some y) (hb : Below W.heap.size W w1) : w1.cell? a = some x ∧ w1.cell? b = some y :=
  ⟨cell_later hb h.1, cell_later hb h.2⟩

set_option maxHeartbeats 400000 in
/-- (tableShape).levels. -/
theorem levels_any (u b : Nat) (w : World) (hu : u ≤ 159) (hb1 : 1 ≤ b) (hb2 : b ≤ 24) :
    Calls Try.prog 40 #[.agg #[.int .i64 u, .int .i64 b]] w fun e w' => e = .returned (.int .i64 ((160 - (u : Int)) / b)) ∧ Below w.heap.size w w' := by
  have hu' : (u : Int) ≤ 159 := by omega
  have ediv : 0 ≤ (160 - (u : Int)) / b ∧ (160 - (u : Int)) / b ≤ 160 := by
    refine ⟨Int.ediv_nonneg (by omega) (by omega), ?_⟩
    exact Int.le_trans (Int.ediv_le_self _ (by omega)) (by omega)
  have t2 : (160 - (u : Int)).tdiv b = (160 - (u : Int)) / b := Int.tdiv_eq_ediv_of_nonneg (by omega)
  have t1 : IntKind.i64.wrap ((160 - (u : Int)) / b) = (160 - (u : Int)) / b := wrap_i64 _ (by omega) (by omega)
  have hbz : ((b : Int) == 0) = false := by simp; omega
  have hbn : ¬ b = 0 := by omega
  have hbm : ((b : Int) == -1) = false := by simp
  go_enter Try.func40, Try.ntmps40
  go_wp2
  go_region_held3 (fun w' => w'.cell? ⟨w.heap.size, 0, none⟩ = some (.int .i64 (u : Int)) ∧ w'.cell? ⟨w.heap.size, 1, none⟩ = some (.int .i64 (b : Int)))
    (first | assumption | exact keep2 (by assumption) (by assumption) | (simp [go_sem]; done))
    (first | (go_at_call 41; refine (bits_any u _ hu).mono ?_; rintro e w1 ⟨rfl, hw1⟩))
  go_wp2
  go_ret
  refine ⟨rfl, ?_⟩
  exact ((Below.refl _ _).alloc (Nat.le_refl _) _).drew.trans (hw1.mono (by simp))
end Go.Proofs.Qxb6614219a
