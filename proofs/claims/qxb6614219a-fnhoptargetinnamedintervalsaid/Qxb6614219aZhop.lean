import Derived.Test.Qxb6614219aHop
namespace Go.Proofs.Qxb6614219a
open Go.RowKit
set_option linter.unusedSimpArgs false

set_option maxRecDepth 100000 in
set_option maxHeartbeats 1000000 in
theorem zhop_any (u b S T : Nat) (w : World) (hu : u ≤ 159) (hb1 : 1 ≤ b) (hb2 : b ≤ 24) :
    Calls Try.prog 18 #[.int .i64 u, .int .i64 b, .agg (idL S).toArray, .agg (idL T).toArray] w fun e w' =>
      e = .returned (.tuple #[.int .i64 (hopI (160 - u) b (ringN u T S) : Nat), .bool (hopOk (160 - u) b (ringN u T S))]) ∧ Below w.heap.size w w' := by
  go_enter Try.func18, Try.ntmps18
  go_upto_region 1 with fail
  go_cut [10] (fun p W => p = .pointer (some ⟨w.heap.size + 2, 0, none⟩) ∧ (∃ cs, Row W (w.heap.size + 2) cs 65 ∧ cs.length = 28) ∧ Row W w.heap.size (idL S) 25 ∧ Row W (w.heap.size + 1) (idL T) 25 ∧ Below w.heap.size w W)
  case first =>
    go_wp2
    go_meet
    case rel => exact ⟨rfl, ⟨_, row_new _ _ _ _ (by simp), rfl⟩, ((row_new _ (idL S) _ _ rfl).alloc _).alloc _, (row_new _ (idL T) _ _ (by simp)).alloc _, (((Below.refl _ _).alloc (Nat.le_refl _) _).alloc (by simp) _).alloc (by simp; omega) _⟩
  case rest =>
    obtain ⟨rfl, ⟨cs, r2, hl⟩, r0, r1, hb⟩ := hcut
    have c0 := r2.cell' 0 (by omega)
    have c1 := r2.cell' 1 (by omega)
    have f0 := r2.free 0
    have f1 := r2.free 1
    generalize cs[0] = x0 at c0
    generalize cs[1] = x1 at c1
    -- the world when the fields are laid
    obtain ⟨W2, hW2⟩ : ∃ W2, W2 = (wc.setCell ⟨w.heap.size + 2, 0, none⟩ (.int .i64 (u : Int))).setCell ⟨w.heap.size + 2, 1, none⟩ (.int .i64 (b : Int)) := ⟨_, rfl⟩
    have k2 : Row W2 (w.heap.size + 2) ((cs.set 0 (.int .i64 (u : Int))).set 1 (.int .i64 (b : Int))) 65 := by rw [hW2]; exact (r2.setCell 0 _).setCell 1 _
    have hl2 : ((cs.set 0 (.int .i64 (u : Int))).set 1 (.int .i64 (b : Int))).length = 28 := by simpa using hl
    have hg2 : wc.grownBy W2 (some (w.heap.size + 2)) := by rw [hW2]; exact grown_trans (grown_setCell _ _ _ _) (grown_setCell _ _ _ _)
    have d0 : W2.cell? ⟨w.heap.size + 2, 0, none⟩ = some (.int .i64 (u : Int)) := by rw [k2.cell, List.getElem?_set_ne (by omega), List.getElem?_set_self (by omega)]
    have d1 : W2.cell? ⟨w.heap.size + 2, 1, none⟩ = some (.int .i64 (b : Int)) := by rw [k2.cell, List.getElem?_set_self (by simp; omega)]
    have k0 := r0.grown hg2 (by simp)
    have k1 := r1.grown hg2 (by simp)
    have ht2 : W2.there (w.heap.size + 2) 2 (idL S).toArray.size := fun j hj => by
      simp only [List.size_toArray, idL_len] at hj
      exact ⟨by rw [k2.cell' (2 + j) (by omega)]; rfl, k2.free _⟩
    obtain ⟨W3, hW3⟩ : ∃ W3, W3 = W2.setCells (w.heap.size + 2) 2 (idL S) := ⟨_, rfl⟩
    have htab : Tab W3 (w.heap.size + 2) u b S := by
      rw [hW3]
      refine ⟨?_, ?_, World.rangeAt_setCells_same _ _ _ _ (by simpa using ht2)⟩
      · rw [World.cell?_setCells_out _ _ _ _ _ (fun _ _ => .inl (by simp))]; exact d0
      · rw [World.cell?_setCells_out _ _ _ _ _ (fun _ _ => .inl (by simp))]; exact d1
    obtain ⟨-, hg3⟩ := row_setCells _ _ (idL S) 2 _ W2 k2 (by rw [hl2, idL_len]; omega)
    rw [← hW3] at hg3
    have j1 := k1.grown hg3 (by simp)
    have hb3 : Below w.heap.size w W3 := (hb.grown hg2 hb.size (by simp)).grown hg3 (Nat.le_trans hb.size hg2.size) (by simp)
    have HW2 : Hid _ := hW2
    have HW3 : Hid _ := hW3
    have HT : Hid _ := htab
    clear hW2 hW3 k2 hl2 hg2 d0 d1 r0 r1 r2 hl hb htab hg3 k1
    go_upto_region 4 with fail
    rw [← HW2.out]
    go_upto_region 5 with (first
      | refine wpList_load_row rfl 25 (.tmp 6) rfl w.heap.size rfl 25 (idL S).toArray (0, 0) _ k0 Try.underlying25 rfl (id20 S).size25 ?_
      | refine wpList_store_mid rfl 25 (.tmp 28) (.tmp 25) rfl (w.heap.size + 2) 2 (idL S).toArray rfl rfl ht2 (sz25' S) (id20 S).all ?_)
    rw [← HW3.out]
    go_wp2_with (first
      | refine wpList_load_row rfl 25 (.tmp 7) rfl (w.heap.size + 1) rfl 25 (idL T).toArray (0, 0) _ j1 Try.underlying25 rfl (id20 T).size25 ?_
      | (go_at_call 33; refine (hop_any (w.heap.size + 2) u b S T _ hu hb1 hb2 HT.out).mono ?_; rintro e w4 ⟨rfl, hw4⟩))
    go_ret2
    exact ⟨rfl, hb3.trans (hw4.mono hb3.size)⟩
end Go.Proofs.Qxb6614219a
