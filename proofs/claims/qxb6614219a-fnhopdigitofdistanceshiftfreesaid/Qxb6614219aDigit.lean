import Derived.Test.Qxb6614219aZhop
import Derived.Test.Qxb6614219aModel
import Derived.Test.Qxb6614219aDist
namespace Go.Proofs.Qxb6614219a
open Go.RowKit
set_option linter.unusedSimpArgs false

theorem sub_shift (T S X : Nat) : subN (subN T X) (subN S X) = subN T S := by unfold subN; omega
theorem ring_shift (u T S X : Nat) : ringN u (subN T X) (subN S X) = ringN u T S := by unfold ringN; rw [sub_shift]

set_option maxRecDepth 100000 in
set_option maxHeartbeats 1000000 in
/-- The early ways out. -/
theorem digit_out (x y : Int) (A B C : Nat) (w : World) (h : ¬ (0 ≤ x ∧ x ≤ 159 ∧ 1 ≤ y ∧ y ≤ 24)) :
    Calls Try.prog 6 #[.int .i64 x, .int .i64 y, .agg (idL A).toArray, .agg (idL B).toArray, .agg (idL C).toArray] w fun e w' => e = .returned (.bool true) ∧ Below w.heap.size w w' := by
  have hB : ∀ (a b c : Obj), Below w.heap.size w (((w.alloc a).alloc b).alloc c) := fun a b c => (((Below.refl _ _).alloc (Nat.le_refl _) _).alloc (by simp) _).alloc (by simp; omega) _
  by_cases g1 : x < 0
  · clear h
    go_enter Try.func6, Try.ntmps6
    go_wp2
    go_ret
    exact ⟨rfl, hB _ _ _⟩
  by_cases g2 : 159 < x
  · clear h
    go_enter Try.func6, Try.ntmps6
    go_wp2
    go_ret
    exact ⟨rfl, hB _ _ _⟩
  by_cases g3 : y < 1
  · clear h
    go_enter Try.func6, Try.ntmps6
    go_wp2
    go_ret
    exact ⟨rfl, hB _ _ _⟩
  · have g4 : 24 < y := by omega
    clear h
    go_enter Try.func6, Try.ntmps6
    go_wp2
    go_ret
    exact ⟨rfl, hB _ _ _⟩

set_option maxRecDepth 100000 in
set_option maxHeartbeats 2000000 in
theorem digit_main (u b S T X : Nat) (w : World) (hu : u ≤ 159) (hb1 : 1 ≤ b) (hb2 : b ≤ 24) :
    Calls Try.prog 6 #[.int .i64 u, .int .i64 b, .agg (idL S).toArray, .agg (idL T).toArray, .agg (idL X).toArray] w fun e w' => e = .returned (.bool true) ∧ Below w.heap.size w w' := by
  obtain ⟨m, hm⟩ : ∃ m, m = 160 - u := ⟨_, rfl⟩
  have hmi : 160 - (u : Int) = (m : Int) := by omega
  have hm1 : 1 ≤ m := by omega
  have hm2 : m ≤ 160 := by omega
  obtain ⟨I, hI⟩ : ∃ I, I = hopI m b (ringN u T S) := ⟨_, rfl⟩
  obtain ⟨ok, hok⟩ : ∃ ok, ok = hopOk m b (ringN u T S) := ⟨_, rfl⟩
  have c1 : ∀ W, Calls Try.prog 17 #[.agg (idL T).toArray, .agg (idL S).toArray, .int .i64 (m : Int)] W fun e w' => e = .returned (.agg (idL (ringN u T S)).toArray) ∧ Below W.heap.size W w' := fun W => by
    unfold ringN; rw [← hm]; exact dist_any T S m W hm2
  have c2 : ∀ W, Calls Try.prog 16 #[.int .i64 (m : Int), .int .i64 b, .agg (idL (ringN u T S)).toArray] W fun e w' => e = .returned (.tuple #[.int .i64 (I : Int), .bool ok]) ∧ Below W.heap.size W w' := fun W => by
    rw [hI, hok]; exact model_all m b _ W hm1 hm2 hb1 hb2 (by unfold ringN; rw [← hm]; exact Nat.mod_lt _ (Nat.two_pow_pos _))
  have c3 : ∀ W, Calls Try.prog 18 #[.int .i64 u, .int .i64 b, .agg (idL S).toArray, .agg (idL T).toArray] W fun e w' => e = .returned (.tuple #[.int .i64 (I : Int), .bool ok]) ∧ Below W.heap.size W w' := fun W => by
    rw [hI, hok, hm]; exact zhop_any u b S T W hu hb1 hb2
  have c4 : ∀ W, Calls Try.prog 18 #[.int .i64 u, .int .i64 b, .agg (idL (subN S X)).toArray, .agg (idL (subN T X)).toArray] W fun e w' => e = .returned (.tuple #[.int .i64 (I : Int), .bool ok]) ∧ Below W.heap.size W w' := fun W => by
    rw [hI, hok, hm, ← ring_shift u T S X]; exact zhop_any u b (subN S X) (subN T X) W hu hb1 hb2
  have C1 : Hid _ := c1
  have C2 : Hid _ := c2
  have C3 : Hid _ := c3
  have C4 : Hid _ := c4
  clear c1 c2 c3 c4 hI hok hm
  generalize ringN u T S = D at C1 C2
  have hu' : (u : Int) ≤ 159 := by omega
  have hb1' : (1 : Int) ≤ b := by omega
  have hb2' : (b : Int) ≤ 24 := by omega
  go_enter Try.func6, Try.ntmps6
  go_upto_region 0 with fail
  go_cut [7, 8, 9, 10] (fun p q s x W => p = .pointer (some ⟨w.heap.size, 0, none⟩) ∧ q = .pointer (some ⟨w.heap.size + 1, 0, none⟩) ∧ s = .pointer (some ⟨w.heap.size + 2, 0, none⟩) ∧ x = .bool false ∧
    Row W w.heap.size (idL S) 22 ∧ Row W (w.heap.size + 1) (idL T) 22 ∧ Row W (w.heap.size + 2) (idL X) 22 ∧ Below w.heap.size w W)
  case first =>
    go_wp2
    go_meet
    case rel => exact ⟨rfl, rfl, rfl, rfl, ((row_new _ (idL S) _ _ rfl).alloc _).alloc _, (row_new _ (idL T) _ _ (by simp)).alloc _, row_new _ (idL X) _ _ (by simp), (((Below.refl _ _).alloc (Nat.le_refl _) _).alloc (by simp) _).alloc (by simp; omega) _⟩
  case rest =>
    obtain ⟨rfl, rfl, rfl, rfl, r0, r1, r2, hb⟩ := hcut
    go_upto_region 7 with (first
      | refine wpList_load_row rfl 22 (.tmp 7) rfl w.heap.size rfl 22 (idL S).toArray (0, 0) _ r0 Try.underlying22 rfl (id20 S).size22 ?_
      | refine wpList_load_row rfl 22 (.tmp 8) rfl (w.heap.size + 1) rfl 22 (idL T).toArray (0, 0) _ r1 Try.underlying22 rfl (id20 T).size22 ?_
      | (go_at_call 17; refine (C1.out _).mono ?_; rintro e w1 ⟨rfl, hw1⟩)
      | (go_at_call 16; refine (C2.out _).mono ?_; rintro e w2 ⟨rfl, hw2⟩))
    have q0 := (r0.below hw1 r0.lt).below hw2 (r0.below hw1 r0.lt).lt
    have q1 := (r1.below hw1 r1.lt).below hw2 (r1.below hw1 r1.lt).lt
    have q2 := (r2.below hw1 r2.lt).below hw2 (r2.below hw1 r2.lt).lt
    have hbw1 := hb.trans (hw1.mono hb.size)
    have hbw2 := hbw1.trans (hw2.mono hbw1.size)
    clear r0 r1 r2 hb hw1 hw2 hbw1
    go_upto_region 10 with (first
      | refine wpList_load_row rfl 22 (.tmp 7) rfl w.heap.size rfl 22 (idL S).toArray (0, 0) _ q0 Try.underlying22 rfl (id20 S).size22 ?_
      | refine wpList_load_row rfl 22 (.tmp 8) rfl (w.heap.size + 1) rfl 22 (idL T).toArray (0, 0) _ q1 Try.underlying22 rfl (id20 T).size22 ?_
      | (go_at_call 18; refine (C3.out _).mono ?_; rintro e w3 ⟨rfl, hw3⟩))
    have p0 := q0.below hw3 q0.lt
    have p1 := q1.below hw3 q1.lt
    have p2 := q2.below hw3 q2.lt
    have hb3 := hbw2.trans (hw3.mono hbw2.size)
    have P0 : Hid _ := p0
    have P1 : Hid _ := p1
    have P2 : Hid _ := p2
    have HB3 : Hid _ := hb3
    clear q0 q1 q2 hbw2 hw3 p0 p1 p2 hb3
    refine wp_region_held_drew (S := Below w3.heap.size w3) (by kernel_rfl) (Below.refl _ _).drew (fun hS => ?_)
    refine wpAnyH_take (i := 0) (v := .int .i64 (u : Int)) rfl (by kernel_rfl) (by kernel_rfl) (by kernel_rfl) (fun _ _ _ h => h) (Or.inl ⟨by rfl, fun w _ => by go_simp⟩) hS ?_
    simp only [Act.put, List.getElem_toArray, List.getElem_cons_zero, List.getElem_cons_succ, List.setIfInBounds_toArray, List.set_cons_zero, List.set_cons_succ]
    refine wpAnyH_take (i := 1) (v := .int .i64 (b : Int)) rfl (by kernel_rfl) (by kernel_rfl) (by kernel_rfl) (fun _ _ _ h => h) (Or.inl ⟨by rfl, fun w _ => by go_simp⟩) hS ?_
    simp only [Act.put, List.getElem_toArray, List.getElem_cons_zero, List.getElem_cons_succ, List.setIfInBounds_toArray, List.set_cons_zero, List.set_cons_succ]
    refine wpAnyH_take (i := 2) (v := .agg (idL S).toArray) rfl (by kernel_rfl) (by kernel_rfl) (by kernel_rfl) (fun _ _ _ h => h) (yieldsIf_load_mid (by rfl) 22 _ rfl w.heap.size 0 rfl (idL S) _ (fun w' hw' => (Row.below P0.out hw' (Row.lt P0.out)).range) Try.underlying22 rfl (sz22 S)) hS ?_
    simp only [Act.put, List.getElem_toArray, List.getElem_cons_zero, List.getElem_cons_succ, List.setIfInBounds_toArray, List.set_cons_zero, List.set_cons_succ]
    refine wpAnyH_take (i := 3) (v := .agg (idL X).toArray) rfl (by kernel_rfl) (by kernel_rfl) (by kernel_rfl) (fun _ _ _ h => h) (yieldsIf_load_mid (by rfl) 22 _ rfl (w.heap.size + 2) 0 rfl (idL X) _ (fun w' hw' => (Row.below P2.out hw' (Row.lt P2.out)).range) Try.underlying22 rfl (sz22 X)) hS ?_
    simp only [Act.put, List.getElem_toArray, List.getElem_cons_zero, List.getElem_cons_succ, List.setIfInBounds_toArray, List.set_cons_zero, List.set_cons_succ]
    refine wpAnyH_take (i := 5) (v := .agg (idL T).toArray) rfl (by kernel_rfl) (by kernel_rfl) (by kernel_rfl) (fun _ _ _ h => h) (yieldsIf_load_mid (by rfl) 22 _ rfl (w.heap.size + 1) 0 rfl (idL T) _ (fun w' hw' => (Row.below P1.out hw' (Row.lt P1.out)).range) Try.underlying22 rfl (sz22 T)) hS ?_
    simp only [Act.put, List.getElem_toArray, List.getElem_cons_zero, List.getElem_cons_succ, List.setIfInBounds_toArray, List.set_cons_zero, List.set_cons_succ]
    refine wpAnyH_take (i := 6) (v := .agg (idL X).toArray) rfl (by kernel_rfl) (by kernel_rfl) (by kernel_rfl) (fun _ _ _ h => h) (yieldsIf_load_mid (by rfl) 22 _ rfl (w.heap.size + 2) 0 rfl (idL X) _ (fun w' hw' => (Row.below P2.out hw' (Row.lt P2.out)).range) Try.underlying22 rfl (sz22 X)) hS ?_
    simp only [Act.put, List.getElem_toArray, List.getElem_cons_zero, List.getElem_cons_succ, List.setIfInBounds_toArray, List.set_cons_zero, List.set_cons_succ]
    refine wpAnyH_ready (rs := [4]) (by kernel_rfl) (by simp) (AllReadyH.cons rfl (fun K hK => ?_) AllReadyH.nil)
    go_simp
    refine (zsub_any S X _).mono ?_
    rintro e w4 ⟨rfl, hw4⟩
    refine hK.out _ _ (Below.trans hS (hw4.mono hS.size)) (fun hS4 => ?_)
    clear hK
    refine wpAnyH_ready (rs := [7]) (by kernel_rfl) (by simp) (AllReadyH.cons rfl (fun K hK => ?_) AllReadyH.nil)
    go_simp
    refine (zsub_any T X _).mono ?_
    rintro e w5 ⟨rfl, hw5⟩
    refine hK.out _ _ (Below.trans hS4 (hw5.mono hS4.size)) (fun hS5 => ?_)
    clear hK
    refine wpAnyH_ready (rs := [8]) (by kernel_rfl) (by simp) (AllReadyH.cons rfl (fun K hK => ?_) AllReadyH.nil)
    go_simp
    refine (C4.out _).mono ?_
    rintro e w6 ⟨rfl, hw6⟩
    refine hK.out _ _ (Below.trans hS5 (hw6.mono hS5.size)) (fun hS6 => ?_)
    clear hK
    refine wpAnyH_take (i := 9) (v := .tuple #[.int .i64 (I : Int), .bool ok]) rfl (by kernel_rfl) (by kernel_rfl) (by kernel_rfl) (fun _ _ _ h => h) (Or.inl ⟨by rfl, fun w _ => by go_simp⟩) hS6 ?_
    simp only [Act.put, List.getElem_toArray, List.getElem_cons_zero, List.getElem_cons_succ, List.setIfInBounds_toArray, List.set_cons_zero, List.set_cons_succ]
    refine wpAnyH_take (i := 10) (v := .int .i64 (I : Int)) rfl (by kernel_rfl) (by kernel_rfl) (by kernel_rfl) (fun _ _ _ h => h) (Or.inl ⟨by rfl, fun w _ => by go_simp⟩) hS6 ?_
    simp only [Act.put, List.getElem_toArray, List.getElem_cons_zero, List.getElem_cons_succ, List.setIfInBounds_toArray, List.set_cons_zero, List.set_cons_succ]
    refine wpAnyH_take (i := 11) (v := .bool ok) rfl (by kernel_rfl) (by kernel_rfl) (by kernel_rfl) (fun _ _ _ h => h) (Or.inl ⟨by rfl, fun w _ => by go_simp⟩) hS6 ?_
    simp only [Act.put, List.getElem_toArray, List.getElem_cons_zero, List.getElem_cons_succ, List.setIfInBounds_toArray, List.set_cons_zero, List.set_cons_succ]
    refine wpAnyH_take (i := 12) (v := .int .i64 (I : Int)) rfl (by kernel_rfl) (by kernel_rfl) (by kernel_rfl) (fun _ _ _ h => h) (Or.inl ⟨by rfl, fun w _ => by go_simp⟩) hS6 ?_
    simp only [Act.put, List.getElem_toArray, List.getElem_cons_zero, List.getElem_cons_succ, List.setIfInBounds_toArray, List.set_cons_zero, List.set_cons_succ]
    refine wpAnyH_take (i := 13) (v := .bool ok) rfl (by kernel_rfl) (by kernel_rfl) (by kernel_rfl) (fun _ _ _ h => h) (Or.inl ⟨by rfl, fun w _ => by go_simp⟩) hS6 ?_
    simp only [Act.put, List.getElem_toArray, List.getElem_cons_zero, List.getElem_cons_succ, List.setIfInBounds_toArray, List.set_cons_zero, List.set_cons_succ]
    refine wpAnyH_done (by kernel_rfl) ?_ _
    have HS6 : Hid _ := hS6
    clear hS6
    go_wp2
    go_ret
    exact ⟨rfl, Below.trans HB3.out (Below.mono HS6.out (Below.size HB3.out))⟩
end Go.Proofs.Qxb6614219a
