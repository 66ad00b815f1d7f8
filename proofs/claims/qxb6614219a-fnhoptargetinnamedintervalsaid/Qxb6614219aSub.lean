import Derived.Test.Qxb6614219aWords
namespace Go.Proofs.Qxb6614219a
open Go.RowKit
set_option linter.unusedSimpArgs false

theorem Row.range {w : World} {g : Nat} {cs : List Value} {t : TypeId} (h : Row w g cs t) : w.rangeAt g 0 cs := fun j v hv => by
  rw [Nat.zero_add, h.cell]; exact hv

theorem sz25 (N : Nat) : (Try.prog.info? 25).map (·.size) = some (idL N).length := by rw [idL_len]; exact size25
theorem sz25' (N : Nat) : (Try.prog.info? 25).map (·.size) = some (idL N).toArray.size := (id20 N).size25
theorem sz22 (N : Nat) : (Try.prog.info? 22).map (·.size) = some (idL N).length := by rw [idL_len]; exact size22

set_option maxRecDepth 100000 in
set_option maxHeartbeats 1000000 in
theorem sub_any (A B : Nat) (w : World) :
    Calls Try.prog 27 #[.agg (idL A).toArray, .agg (idL B).toArray] w fun e w' => e = .returned (.agg (idL (subN A B)).toArray) ∧ Below w.heap.size w w' := by
  go_enter Try.func27, Try.ntmps27
  go_upto_region 0 with fail
  go_cut [2, 3, 4] (fun p q s W => p = .pointer (some ⟨w.heap.size, 0, none⟩) ∧ q = .pointer (some ⟨w.heap.size + 1, 0, none⟩) ∧ s = .pointer (some ⟨w.heap.size + 2, 0, none⟩) ∧
    Row W w.heap.size (idL A) 25 ∧ Row W (w.heap.size + 1) (idL B) 25 ∧ Row W (w.heap.size + 2) zeros20 25 ∧ Below w.heap.size w W)
  case first =>
    go_wp2
    go_meet
    case rel => exact ⟨rfl, rfl, rfl, ((row_new _ (idL A) _ _ rfl).alloc _).alloc _, (row_new _ (idL B) _ _ (by simp)).alloc _, row_new _ zeros20 _ _ (by simp), (((Below.refl _ _).alloc (Nat.le_refl _) _).alloc (by simp) _).alloc (by simp; omega) _⟩
  case rest =>
    obtain ⟨rfl, rfl, rfl, r0, r1, r2, hb⟩ := hcut
    have HT : Hid _ := r2.there (n := 20) (by simp [zeros20])
    have R0 : Hid _ := r0
    have R1 : Hid _ := r1
    clear r0 r1
    go_upto_region 1 with fail
    refine wp_region_held_drew (S := Kp wc (w.heap.size + 2) 20) (by kernel_rfl) (Kp.start HT.out) (fun hS => ?_)
    refine wpAnyH_take (i := 0) (v := .agg (idL A).toArray) rfl (by kernel_rfl) (by kernel_rfl) (by kernel_rfl) (fun _ _ _ h => h)
      (yieldsIf_load_mid (by rfl) 25 _ rfl w.heap.size 0 rfl (idL A) _ (fun w' hw' => (hw'.row R0.out (by omega)).range) Try.underlying25 rfl (sz25 A)) hS ?_
    simp only [Act.put, List.setIfInBounds_toArray, List.set_cons_zero, List.set_cons_succ]
    refine wpAnyH_take (i := 2) (v := .agg (idL B).toArray) rfl (by kernel_rfl) (by kernel_rfl) (by kernel_rfl) (fun _ _ _ h => h)
      (yieldsIf_load_mid (by rfl) 25 _ rfl (w.heap.size + 1) 0 rfl (idL B) _ (fun w' hw' => (hw'.row R1.out (by omega)).range) Try.underlying25 rfl (sz25 B)) hS ?_
    simp only [Act.put, List.setIfInBounds_toArray, List.set_cons_zero, List.set_cons_succ]
    refine wpAnyH_ready (rs := [1]) (by kernel_rfl) (by simp) (AllReadyH.cons rfl (fun K hK => ?_) AllReadyH.nil)
    go_simp
    refine (words_any A _).mono ?_
    rintro e w1 ⟨rfl, hb1⟩
    refine hK.out _ _ (hS.call hb1) (fun hS1 => ?_)
    clear hK hS
    refine wpAnyH_ready (rs := [3]) (by kernel_rfl) (by simp) (AllReadyH.cons rfl (fun K hK => ?_) AllReadyH.nil)
    go_simp
    refine (words_any B _).mono ?_
    rintro e w2 ⟨rfl, hb2⟩
    refine hK.out _ _ (hS1.call hb2) (fun hS2 => ?_)
    clear hK hS1
    refine wpAnyH_ready (rs := [4]) (by kernel_rfl) (by simp) (AllReadyH.cons rfl (fun K hK => ?_) AllReadyH.nil)
    go_simp
    refine (minus_any _ _ _ _ _ _ (hiS A B) _ (hiS_eq A B)).mono ?_
    rintro e w3 ⟨rfl, hb3⟩
    refine hK.out _ _ (hS2.call hb3) (fun hS3 => ?_)
    clear hK hS2
    refine wpAnyH_ready (rs := [5]) (by kernel_rfl) (by simp) (AllReadyH.cons rfl (fun K hK => ?_) AllReadyH.nil)
    go_simp
    refine (id_num _ _ _ (subN A B) _ (Int.natCast_nonneg _) (Int.ofNat_lt.2 (hiS_lt _ _)) (Int.natCast_nonneg _) (Int.ofNat_lt.2 (dif_lt _ _ _)) (Int.natCast_nonneg _) (Int.ofNat_lt.2 (dif_lt _ _ _)) (sub_num A B)).mono ?_
    rintro e w4 ⟨rfl, hb4⟩
    refine hK.out _ _ (hS3.call hb4) (fun hS4 => ?_)
    clear hK hS3
    refine wpAnyH_ready (rs := [6]) (by kernel_rfl) (by simp) (AllReadyH.cons rfl (fun K hK => ?_) AllReadyH.nil)
    rw [if_pos (by rfl)]
    refine wp_store_mid 25 _ _ rfl (w.heap.size + 2) 0 (idL (subN A B)).toArray rfl rfl (by simpa [idL_len] using hS4.room) (sz25' _) (id20 _).all ?_
    refine hK.out _ _ (hS4.setCells 0 _) (fun hS5 => ?_)
    refine wpAnyH_done (by kernel_rfl) ?_ _
    have q1 := Row.below r2.drew hb1 r2.lt
    have q2 := q1.below hb2 q1.lt
    have q3 := q2.below hb3 q2.lt
    have q4 := q3.below hb4 q3.lt
    obtain ⟨q5, -⟩ := row_setCells _ _ (idL (subN A B)) 0 zeros20 w4 q4 (by simp [zeros20, idL])
    rw [splice_all zeros20 (idL (subN A B)) (by simp [zeros20, idL])] at q5
    have Q5 : Hid _ := q5
    have G5 : Hid _ := hS5.grow
    clear q1 q2 q3 q4 q5 hS4 hS5 hK r2
    simp only [Act.put, List.toList_toArray]
    go_wp2
    refine bodyPost_ret (v := .agg (idL (subN A B)).toArray) (results_cell_row Try.results27 _ _ (w.heap.size + 2) 25 (idL (subN A B)).toArray (0, 0) _ rfl Q5.out Try.underlying25 rfl (id20 _).size25) rfl ⟨rfl, ?_⟩
    exact hb.grown G5.out hb.size (by simp)

set_option maxHeartbeats 400000 in
/-- ZZsubID. -/
theorem zsub_any (A B : Nat) (w : World) :
    Calls Try.prog 10 #[.agg (idL A).toArray, .agg (idL B).toArray] w fun e w' => e = .returned (.agg (idL (subN A B)).toArray) ∧ Below w.heap.size w w' := by
  go_enter Try.func10, Try.ntmps10
  go_upto_region 0 with fail
  go_cut [2, 3, 4] (fun p q s W => p = .pointer (some ⟨w.heap.size, 0, none⟩) ∧ q = .pointer (some ⟨w.heap.size + 1, 0, none⟩) ∧ s = .pointer (some ⟨w.heap.size + 2, 0, none⟩) ∧
    Row W w.heap.size (idL A) 25 ∧ Row W (w.heap.size + 1) (idL B) 25 ∧ Row W (w.heap.size + 2) zeros20 25 ∧ Below w.heap.size w W)
  case first =>
    go_wp2
    go_meet
    case rel => exact ⟨rfl, rfl, rfl, ((row_new _ (idL A) _ _ rfl).alloc _).alloc _, (row_new _ (idL B) _ _ (by simp)).alloc _, row_new _ zeros20 _ _ (by simp), (((Below.refl _ _).alloc (Nat.le_refl _) _).alloc (by simp) _).alloc (by simp; omega) _⟩
  case rest =>
    obtain ⟨rfl, rfl, rfl, r0, r1, r2, hb⟩ := hcut
    go_wp2_with (first
      | refine wpList_load_row rfl 25 _ rfl w.heap.size rfl 25 (idL A).toArray (0, 0) _ r0 Try.underlying25 rfl (id20 A).size25 ?_
      | refine wpList_load_row rfl 25 _ rfl (w.heap.size + 1) rfl 25 (idL B).toArray (0, 0) _ r1 Try.underlying25 rfl (id20 B).size25 ?_
      | (go_at_call 27; refine (sub_any A B _).mono ?_; rintro e w1 ⟨rfl, hb1⟩; have q2 := r2.below hb1 r2.lt)
      | refine wpList_store_row rfl 25 _ _ rfl (w.heap.size + 2) (idL (subN A B)).toArray rfl rfl 25 _ q2 (id20 _).size25 (by simp [zeros20, (id20 (subN A B)).1]) (id20 _).all ?_)
    refine bodyPost_ret (v := .agg (idL (subN A B)).toArray) (results_cell_row Try.results10 _ _ (w.heap.size + 2) 25 (idL (subN A B)).toArray (0, 0) _ rfl q2.setRow Try.underlying25 rfl (id20 _).size25) rfl ⟨rfl, ?_⟩
    exact below_setRow (hb.trans (hb1.mono hb.size)) (by omega) _
end Go.Proofs.Qxb6614219a
