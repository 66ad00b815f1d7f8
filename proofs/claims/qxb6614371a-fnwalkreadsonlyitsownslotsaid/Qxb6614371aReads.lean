import Derived.Test.Qxb6614371aEarly6
namespace Go.Proofs.Qxb6614371a
open Go.RowKit Go.Maps
set_option linter.unusedVariables false
set_option linter.unusedSimpArgs false

/-- ZZlockSeq. -/
theorem lockSeq_any (b : Nat) (s : Int) (nx : Value) (w : World) (h : Lk w b s nx) :
    Calls Try.prog 22 #[.pointer (some ⟨b, 0, none⟩)] w fun e w' => e = .returned (.int .u32 s) ∧ w = w' := by
  have c := h.seq
  go_enter Try.func22, Try.ntmps22
  go_wp2
  go_ret
  exact ⟨rfl, rfl⟩

/-- What is laid when the walk begins: the two chains and the head of the granted queue in the slot's place. All lie below V. -/
structure Pre6 (w W : World) (B T U hQ V hg n0 hh n1 k : Nat) (qg qw : Nat → Nat) (fg fw : Nat → Int) : Prop where
  cg : Chain W B T hg n0 qg fg
  cw : Chain W T U hh n1 qw fw
  qc : W.cell? ⟨hQ, k, none⟩ = some (.pointer (nodeA qg n0 0))
  q1 : U ≤ hQ
  q2 : hQ < V
  bel : Below w.heap.size w W
  lo : w.heap.size ≤ U
theorem Pre6.below {w W W' : World} {B T U hQ V hg n0 hh n1 k : Nat} {qg qw : Nat → Nat} {fg fw : Nat → Int} (h : Pre6 w W B T U hQ V hg n0 hh n1 k qg qw fg fw) {C : Nat} (hb : Below C W W') (hC : V ≤ C) :
    Pre6 w W' B T U hQ V hg n0 hh n1 k qg qw fg fw := by
  have h1 := h.q1; have h2 := h.q2; have h4 := h.lo
  have h5 := h.cw.lo; have h6 := h.cw.hi
  exact ⟨h.cg.below hb (by omega), h.cw.below hb (by omega), by rw [hb.cell (show hQ < C by omega)]; exact h.qc, h.q1, h.q2, h.bel.trans (hb.mono (by omega)), h.lo⟩

/-- The map of wait queues, of at most n entries, none of them at k. -/
def Mz (W : World) (m n k : Nat) : Prop := ∃ D, W.ownsMap Try.prog 21 ptrElem m n D ∧ D.atKey (.int .i32 k) .nil = .nil
theorem wf32 {x : Int} (h0 : 0 ≤ x) (h1 : x ≤ 65537) : (Lit.int .i32 x).wf = true := by simp [Lit.wf, IntKind.min, IntKind.max, IntKind.signed, IntKind.bits]; omega

set_option maxRecDepth 100000 in
set_option maxHeartbeats 4000000 in
theorem law6_main (k : Nat) (y : Int) (a0 a1 : Option Addr) (n0 c0 n1 c1 : Nat) (fg fw : Nat → Int) (w : World) (h0 : n0 ≤ 4096) (h1 : n1 ≤ 4096) (hk : k ≤ 65536) (m0 : Nms w a0 n0 fg) (m1 : Nms w a1 n1 fw)
    (g0 : ∀ i, i + 1 < n0 → fg i < fg (i + 1)) (g1 : ∀ i, i + 1 < n1 → fw i < fw (i + 1)) :
    Calls Try.prog 6 #[.int .i32 k, .int .u32 y, .slice a0 n0 c0, .slice a1 n1 c1] w fun e w' => e = .returned (.bool true) ∧ Below w.heap.size w w' := by
  obtain ⟨i0, hi, hz0, hz1, hz2⟩ := info_parts info32
  have hmm := @run_makeMap Try.prog
  have hk' : (k : Int) ≤ 65536 := by omega
  have G0 : Hid _ := g0
  have G1 : Hid _ := g1
  clear g0 g1
  go_enter Try.func6, Try.ntmps6
  go_wp2_with (first
    | (go_at_call 20; refine (bytes2_yes _ _ _ _ _ _ _ _ _ (by omega) (by omega)).mono ?_; rintro e w' ⟨rfl, rfl⟩)
    | (go_at_call_of 9 (Value.slice a0 n0 c0); refine (asc_any _ _ _ fg _ m0 h0).mono ?_; rintro e w1 ⟨hs, hw1⟩; obtain rfl := hs.is_true G0.out; clear hs; have m1' := m1.below hw1)
    | (go_at_call 9; refine (asc_any _ _ _ fw _ m1' h1).mono ?_; rintro e w2 ⟨hs, hw2⟩; obtain rfl := hs.is_true G1.out; clear hs; have b2 := hw1.trans (hw2.mono hw1.size); have u0 := m0.below b2; have u1 := m1.below b2)
    | (go_at_call 10; refine (order_any _ _ _ _ _ _ fg fw _ u0 u1 h0 h1).mono ?_; rintro e w3 ⟨rfl, hw3⟩)
    | fail)
  obtain ⟨⟨o, hO, hown⟩, hb3, hlt3⟩ := hw3
  have b3 := b2.trans (hb3.mono b2.size)
  have v0 := m0.below b3
  have v1 := m1.below b3
  have hOO : Hid _ := hO
  clear m0 m1 m1' hw1 hw2 u0 u1 hb3
  refine (distinct_any _ _ _ _ _ _ w2.heap.size fg fw o _ v0 v1 h0 h1 hO hown).mono ?_
  rintro e w4 ⟨hs, hw4⟩
  clear hO hown
  by_cases hD : ∀ k, k + 1 < n0 + n1 → keyF n0 fg fw (o k) ≠ keyF n0 fg fw (o (k + 1))
  · have HD : Hid _ := hD
    obtain rfl := hs.is_true hD
    clear hD hs
    have x0 := v0.below hw4
    go_upto_region 13 with (first
      | (go_at_call_of 12 (Value.slice a0 n0 c0); refine (chain_any _ _ _ fg _ x0 h0).mono ?_; rintro e w5 ⟨hg, qg, rfl, cg, hw5⟩; have x1 := (v1.below hw4).below hw5)
      | (go_at_call 12; refine (chain_any _ _ _ fw _ x1 h1).mono ?_; rintro e w6 ⟨hh, qw, rfl, cw, hw6⟩))
    have cg6 := cg.below hw6 (Nat.le_refl _)
    have hs4 := hw4.size
    have hs5 := hw5.size
    have hs6 := hw6.size
    have b4 := b3.trans (hw4.mono b3.size)
    have b5 := b4.trans (hw5.mono b4.size)
    have b6 := b5.trans (hw6.mono b5.size)
    clear hw4 hw5 hw6 x0 x1 v0 v1 cg b2 b3 b4 b5
    go_wp2_with (first | (at_make; refine wpList_make_full _ rfl _ _ 30 rfl w6.heap.size 32 i0 (.pointer none) 1 Try.underlying30 hi hz0 hz1 _ _ _ _ (k + 2) rfl rfl (by omega) (by omega) (by rw [hz2]; omega) (by unfold maxLen; omega) (Nat.le_refl _) ?_; intro w7 hown hgrow))
    obtain ⟨hq, hyl⟩ := made_block hown
    rw [show (Value.pointer none).cells = #[Value.pointer none] from rfl, made_rep] at hq
    have F0 := own_made hq
    have hs7 := lt_of_heap hq
    have hB7 : Below w6.heap.size w6 w7 := (Below.refl _ _).grown hgrow (Nat.le_refl _) (by simp)
    clear hown hgrow hq hyl hi hz0 hz1 hz2
    have CG6 : Hid _ := cg6
    have CW6 : Hid _ := cw
    have B6 : Hid _ := b6
    clear cg6 cw b6
    go_loopw [12] (fun t wr => ∃ (i : Nat) (F : Nat → Value), i ≤ k + 2 ∧ t = .int .i64 i ∧ Own wr w6.heap.size (k + 2) F ∧ w6.heap.size < wr.heap.size ∧ Below w6.heap.size w6 wr) (fun t _ => k + 2 - (intOf t).toNat)
    case atStart => exact ⟨0, _, by omega, rfl, F0, hs7, hB7⟩
    case round =>
      clear F0 hs7 hB7
      obtain ⟨i, F, hi, rfl, hF, hs7, hB7⟩ := hrel
      by_cases hik : i < k + 2
      · have hik' : (i : Int) < k + 2 := by omega
        by_cases hie : i = k
        · subst hie
          go_wp2
          go_roundw
          case rel => exact ⟨i + 1, F, by omega, by go_num, hF, hs7, hB7⟩
          case measure => simp [intOf]
        · have hie' : ¬ (i : Int) = k := by omega
          have hF8 : ∀ w8, Below wr.heap.size wr w8 → Own w8 w6.heap.size (k + 2) F := fun w8 h => hF.below h hs7
          have HF8 : Hid _ := hF8
          clear hF8
          go_wp2_with (first
            | (go_at_call 21; refine (newLock_any _ _ _).mono ?_; rintro e w8 ⟨rfl, hlk, hw8⟩; have hF9 := HF8.out w8 hw8; have ci := hF9.cell i hik; have fi := hF9.free i hik))
          go_roundw
          case rel => exact ⟨i + 1, _, by omega, by go_num, hF9.set i _, by have := hw8.size; simp; omega, (hB7.trans (hw8.mono hB7.size)).setCell (Nat.le_refl _) _⟩
          case measure => simp [intOf]; omega
      · have hik' : ¬ (i : Int) < k + 2 := by omega
        have ck := hF.cell k (by omega)
        have fk := hF.free k (by omega)
        have cg7 := CG6.out.below hB7 hs6
        have cw7 := CW6.out.below hB7 (Nat.le_refl _)
        go_upto_region 20 with (first
          | (go_at_call 13; refine (head_any hg n0 qg _ h0 cg7.row).mono ?_; rintro e w8 ⟨rfl, rfl⟩))
        obtain ⟨V, hV⟩ : ∃ V, wr.heap.size = V := ⟨_, rfl⟩
        have PP : Hid (Pre6 w (wr.setCell ⟨w6.heap.size, k, none⟩ (.pointer (nodeA qg n0 0))) w4.heap.size w5.heap.size w6.heap.size w6.heap.size V hg n0 hh n1 k qg qw fg fw) :=
          ⟨cg7.other (by simp; omega) _, cw7.other (by simp) _, World.cell?_setCell_same _ _ _ ck, Nat.le_refl _, by omega, (Below.trans B6.out (hB7.mono (Below.size B6.out))).setCell (Below.size B6.out) _, Below.size B6.out⟩
        go_cut [13] (fun x W => ∃ m, x = .map (some m) ∧ Mz W m 0 k ∧ V ≤ m ∧ Pre6 w W w4.heap.size w5.heap.size w6.heap.size w6.heap.size V hg n0 hh n1 k qg qw fg fw)
        case first =>
          go_wp2
          go_meet
          case rel =>
            have hmade := World.ownsMap_made (H := Unit) (wr.setCell ⟨w6.heap.size, k, none⟩ (.pointer (nodeA qg n0 0))) Try.prog 21 ptrElem
            rw [show (wr.setCell ⟨w6.heap.size, k, none⟩ (.pointer (nodeA qg n0 0))).heap.size = wr.heap.size by simp] at hmade
            rw [hV] at hmade
            exact ⟨_, rfl, ⟨_, hmade, rfl⟩, by omega, Pre6.below PP.out ((Below.refl V _).alloc (by simp; omega) _) (Nat.le_refl _)⟩
        case rest =>
          obtain ⟨m, rfl, ⟨D0, hmap, hat⟩, hVm, px⟩ := hcut
          clear PP cg7 cw7 ck fk CG6 CW6 B6 hF hB7 hmm hV
          go_upto_region 23 with (first
            | (go_at_call 21; refine (newLock_any _ _ _).mono ?_; rintro e x1 ⟨rfl, hlk, hx1⟩)
            | (go_at_call 14; refine (newWq_any _ _ _).mono ?_; rintro e x2 ⟨rfl, cq, hx2⟩; have hx12 := hx1.trans (hx2.mono hx1.size); have hmap2 := ownsMap_below hmap hx12 hmap.lt)
            | (at_mapUpdate; refine wpList_mapUpdate_own _ rfl _ _ _ 34 rfl 21 35 klaw Try.underlying34 _ m 0 _ rfl hmap2 (by unfold maxLen; omega) _ _ _ rfl rfl (keyOf_int_mk Try.underlying21 (wf32 (by omega) (by omega))) _ [] (ptrElem_mk (some x1.heap.size)) ?_; intro x3 hown3 hgrow3))
          have hmlt := hmap.lt
          have hS3 : Below m wc x3 := (hx12.mono (Nat.le_of_lt hmlt)).grown hgrow3 (Nat.le_trans (Nat.le_of_lt hmlt) hx12.size) (by intro i hi; cases hi; exact Nat.le_refl _)
          have mz3 : Mz x3 m 1 k := ⟨_, hown3, by rw [atKey_put_other (by intro h; injection h; omega)]; exact hat⟩
          have px3 := Pre6.below px hS3 hVm
          have hV3 : V ≤ x3.heap.size := by have := hS3.size; omega
          clear hown3 hgrow3 hS3 hmap hmap2 hat px hx1 hx2 hx12 cq hlk hmlt
          have MZ3 : Hid _ := mz3
          have PX3 : Hid _ := px3
          clear mz3 px3
          go_upto_if 97 with fail
          go_cut [] (fun W => Mz W m 2 k ∧ V ≤ W.heap.size ∧ Pre6 w W w4.heap.size w5.heap.size w6.heap.size w6.heap.size V hg n0 hh n1 k qg qw fg fw)
          case first =>
            by_cases hk0 : 0 < k
            · have hk0' : (0 : Int) < k := by omega
              obtain ⟨D1, hmap, hat⟩ := MZ3.out
              go_wp2_with (first
                | (go_at_call 21; refine (newLock_any _ _ _).mono ?_; rintro e x4 ⟨rfl, hlk, hx4⟩)
                | (go_at_call 14; refine (newWq_any _ _ _).mono ?_; rintro e x5 ⟨rfl, cq, hx5⟩; have hx45 := hx4.trans (hx5.mono hx4.size); have hmap2 := ownsMap_below hmap hx45 hmap.lt)
                | (at_mapUpdate; refine wpList_mapUpdate_own _ rfl _ _ _ 34 rfl 21 35 klaw Try.underlying34 _ m 1 _ rfl hmap2 (by unfold maxLen; omega) _ _ _ rfl rfl (keyOf_int_mk Try.underlying21 (wf32 (by omega) (by omega))) _ [] (ptrElem_mk (some x4.heap.size)) ?_; intro x6 hown6 hgrow6))
              go_meet
              case rel =>
                have hmlt := hmap.lt
                have hS6 : Below m x3 x6 := (hx45.mono (Nat.le_of_lt hmlt)).grown hgrow6 (Nat.le_trans (Nat.le_of_lt hmlt) hx45.size) (by intro i hi; cases hi; exact Nat.le_refl _)
                exact ⟨⟨_, hown6, by rw [atKey_put_other (by intro h; injection h; omega)]; exact hat⟩, by have := hS6.size; omega, Pre6.below PX3.out hS6 hVm⟩
            · have hk0' : ¬ (0 : Int) < k := by omega
              go_wp2
              go_meet
              case rel =>
                obtain ⟨D1, hmap, hat⟩ := MZ3.out
                exact ⟨⟨D1, hmap.mono (by omega), hat⟩, hV3, PX3.out⟩
          case rest =>
            obtain ⟨⟨D2, hmap, hat⟩, hV4, px4⟩ := hcut
            clear MZ3 PX3 hV3
            have PX4 : Hid _ := px4
            have HMAP : Hid _ := hmap
            have hmlt := hmap.lt
            have hUm : w6.heap.size ≤ m := by have := px4.q2; omega
            clear px4 hmap
            go_upto_if 108 with fail
            go_cut [] (fun W => ∃ p, Mp W m k p ∧ ((p = none ∧ nodeA qw n1 0 = none) ∨ ∃ b, p = some b ∧ W.cell? ⟨b, 0, none⟩ = some (.pointer (nodeA qw n1 0))) ∧ V ≤ W.heap.size ∧
              Pre6 w W w4.heap.size w5.heap.size w6.heap.size w6.heap.size V hg n0 hh n1 k qg qw fg fw)
            case first =>
              by_cases hn1 : n1 = 0
              · have hn1' : ¬ (0 : Int) < n1 := by omega
                clear hn1
                go_wp2
                go_meet
                case rel => exact ⟨none, ⟨2, D2, HMAP.out, by omega, hat⟩, Or.inl ⟨rfl, nodeA_out (by omega)⟩, hV4, PX4.out⟩
              · have hn1' : (0 : Int) < n1 := by omega
                obtain ⟨r, hr⟩ : ∃ r : Nat, (n1 : Int) - 1 = r := ⟨n1 - 1, by omega⟩
                have hr1 : (r : Int) < n1 := by omega
                clear hn1
                go_upto_region 27 with fail
                refine wp_region_held_drew (S := Below m wc) (by kernel_rfl) (Below.refl _ _).drew (fun hS => ?_)
                refine wpAnyH_take (i := 0) (v := .map (some m)) rfl (by kernel_rfl) (by kernel_rfl) (by kernel_rfl) (fun _ _ _ h => h) (Or.inl ⟨by rfl, fun W hW => by go_simp⟩) hS ?_
                simp only [Act.put, List.getElem_toArray, List.getElem_cons_zero, List.getElem_cons_succ, List.setIfInBounds_toArray, List.set_cons_zero, List.set_cons_succ]
                refine wpAnyH_take (i := 1) (v := .int .i32 k) rfl (by kernel_rfl) (by kernel_rfl) (by kernel_rfl) (fun _ _ _ h => h) (Or.inl ⟨by rfl, fun W hW => by go_simp⟩) hS ?_
                simp only [Act.put, List.getElem_toArray, List.getElem_cons_zero, List.getElem_cons_succ, List.setIfInBounds_toArray, List.set_cons_zero, List.set_cons_succ]
                refine wpAnyH_take (i := 2) (v := .slice (some ⟨hh, 0, none⟩) n1 n1) rfl (by kernel_rfl) (by kernel_rfl) (by kernel_rfl) (fun _ _ _ h => h) (Or.inl ⟨by rfl, fun W hW => by go_simp⟩) hS ?_
                simp only [Act.put, List.getElem_toArray, List.getElem_cons_zero, List.getElem_cons_succ, List.setIfInBounds_toArray, List.set_cons_zero, List.set_cons_succ]
                refine wpAnyH_take (i := 3) (v := .pointer (some ⟨hh, 0, none⟩)) rfl (by kernel_rfl) (by kernel_rfl) (by kernel_rfl) (fun _ _ _ h => h) (Or.inl ⟨by rfl, fun W hW => by go_simp⟩) hS ?_
                simp only [Act.put, List.getElem_toArray, List.getElem_cons_zero, List.getElem_cons_succ, List.setIfInBounds_toArray, List.set_cons_zero, List.set_cons_succ]
                refine wpAnyH_take (i := 4) (v := .pointer (nodeA qw n1 0)) rfl (by kernel_rfl) (by kernel_rfl) (by kernel_rfl) (fun _ _ _ h => h) (Or.inl ⟨by rfl, fun W hW => by have c := (Chain.below (Pre6.cw PX4.out) hW hUm).row.cell 0 (by omega); go_simp⟩) hS ?_
                simp only [Act.put, List.getElem_toArray, List.getElem_cons_zero, List.getElem_cons_succ, List.setIfInBounds_toArray, List.set_cons_zero, List.set_cons_succ]
                refine wpAnyH_take (i := 5) (v := .slice (some ⟨hh, 0, none⟩) n1 n1) rfl (by kernel_rfl) (by kernel_rfl) (by kernel_rfl) (fun _ _ _ h => h) (Or.inl ⟨by rfl, fun W hW => by go_simp⟩) hS ?_
                simp only [Act.put, List.getElem_toArray, List.getElem_cons_zero, List.getElem_cons_succ, List.setIfInBounds_toArray, List.set_cons_zero, List.set_cons_succ]
                refine wpAnyH_take (i := 6) (v := .slice (some ⟨hh, 0, none⟩) n1 n1) rfl (by kernel_rfl) (by kernel_rfl) (by kernel_rfl) (fun _ _ _ h => h) (Or.inl ⟨by rfl, fun W hW => by go_simp⟩) hS ?_
                simp only [Act.put, List.getElem_toArray, List.getElem_cons_zero, List.getElem_cons_succ, List.setIfInBounds_toArray, List.set_cons_zero, List.set_cons_succ]
                refine wpAnyH_take (i := 7) (v := .int .i64 n1) rfl (by kernel_rfl) (by kernel_rfl) (by kernel_rfl) (fun _ _ _ h => h) (Or.inl ⟨by rfl, fun W hW => by go_simp⟩) hS ?_
                simp only [Act.put, List.getElem_toArray, List.getElem_cons_zero, List.getElem_cons_succ, List.setIfInBounds_toArray, List.set_cons_zero, List.set_cons_succ]
                refine wpAnyH_take (i := 8) (v := .int .i64 r) rfl (by kernel_rfl) (by kernel_rfl) (by kernel_rfl) (fun _ _ _ h => h) (Or.inl ⟨by rfl, fun W hW => by go_simp; exact i64_in r (by omega)⟩) hS ?_
                simp only [Act.put, List.getElem_toArray, List.getElem_cons_zero, List.getElem_cons_succ, List.setIfInBounds_toArray, List.set_cons_zero, List.set_cons_succ]
                refine wpAnyH_take (i := 9) (v := .pointer (some ⟨hh, r, none⟩)) rfl (by kernel_rfl) (by kernel_rfl) (by kernel_rfl) (fun _ _ _ h => h) (Or.inl ⟨by rfl, fun W hW => by go_simp⟩) hS ?_
                simp only [Act.put, List.getElem_toArray, List.getElem_cons_zero, List.getElem_cons_succ, List.setIfInBounds_toArray, List.set_cons_zero, List.set_cons_succ]
                refine wpAnyH_take (i := 10) (v := .pointer (nodeA qw n1 r)) rfl (by kernel_rfl) (by kernel_rfl) (by kernel_rfl) (fun _ _ _ h => h) (Or.inl ⟨by rfl, fun W hW => by have c := (Chain.below (Pre6.cw PX4.out) hW hUm).row.cell r (by omega); go_simp⟩) hS ?_
                simp only [Act.put, List.getElem_toArray, List.getElem_cons_zero, List.getElem_cons_succ, List.setIfInBounds_toArray, List.set_cons_zero, List.set_cons_succ]
                refine wpAnyH_ready (rs := [11]) (by kernel_rfl) (by simp) (AllReadyH.cons rfl (fun K hK => ?_) AllReadyH.nil)
                go_simp
                refine (newWq_any _ _ (wc.drewN 1)).mono ?_
                rintro e v1 ⟨rfl, cq, hv1⟩
                have hv1' : Below wc.heap.size wc v1 := (below_drewN (Below.refl _ _) 1).trans hv1
                refine hK.out _ _ (hv1'.mono (Nat.le_of_lt hmlt)) (fun hS1 => ?_)
                clear hK
                obtain ⟨v2, hrun, hown2, hgr⟩ := (ownsMap_below HMAP.out hv1' hmlt).update klaw Try.underlying34 (by unfold maxLen; omega) (keyOf_int_mk Try.underlying21 (a := (k : Int)) (wf32 (by omega) (by omega))) (ptrElem_mk (some wc.heap.size))
                have hrun' : (Instr.mapUpdate 34 (.map (some m)) (.int .i32 k) (.pointer (some ⟨wc.heap.size, 0, none⟩))).run Try.prog v1 = .ok () v2 := hrun
                have hS2 : Below m wc v2 := (hv1'.mono (Nat.le_of_lt hmlt)).grown hgr (Nat.le_trans (Nat.le_of_lt hmlt) hv1'.size) (by intro i hi; cases hi; exact Nat.le_refl _)
                have cq2 : v2.cell? ⟨wc.heap.size, 0, none⟩ = some (.pointer (nodeA qw n1 0)) := by
                  rw [World.cell?_of_block (w := v1) (hgr.block wc.heap.size (World.block_lt_of_cell? _ _ cq) (by intro h; cases h; omega))]; exact cq
                have himap := World.ownsMap.isMap HMAP.out
                refine wpAnyH_ready (rs := [12]) (by kernel_rfl) (by simp) (AllReadyH.cons rfl (fun K hK => ?_) AllReadyH.nil)
                go_simp
                refine hK.out _ _ hS2 (fun hS3 => ?_)
                clear hK
                refine wpAnyH_done (by kernel_rfl) ?_ _
                go_wp2_with fail
                go_meet
                exact ⟨some wc.heap.size, ⟨3, _, hown2, by omega, atKey_put_same himap (by trivial) _ _⟩, Or.inr ⟨_, rfl, cq2⟩, by have := hS2.size; omega, Pre6.below PX4.out hS2 hVm⟩
            case rest =>
              obtain ⟨p, hmp, hpx, hV5, px5⟩ := hcut
              clear PX4 HMAP hat hV4
              have MP : Hid _ := hmp
              have HPX : Hid _ := hpx
              have PX : Hid _ := px5
              clear hmp hpx px5
              go_upto_region 29 with (first
                | (go_at_call 17; refine (newIx_any w6.heap.size (k + 2) m _).mono ?_; rintro e y1 ⟨rfl, ix1, hy1⟩)
                | (go_at_call 16; refine (newPlace_any _ _ _).mono ?_; rintro e y2 ⟨rfl, hy2⟩; have z2 := hy1.trans (hy2.mono hy1.size); have ix2 := ix1.below hy2 ix1.lt; have mp2 := Mp.below MP.out z2 (Mp.lt MP.out); have qc2 := cell_below (Pre6.qc PX.out) z2 (Nat.le_refl _); have hp2 := hpx_below HPX.out z2)
                | (go_at_call 15; refine (zwalk_any _ w6.heap.size (k + 2) m k p _ _ _ ix2 mp2 (by omega) (by omega) qc2 hp2).mono ?_; rintro e y3 ⟨rfl, hy3⟩))
              have z3 := z2.trans (hy3.mono z2.size)
              have px3 := Pre6.below PX.out z3 hV5
              have hz3 := z3.size
              have px4 := Pre6.below px3 ((Below.refl y3.heap.size y3).alloc (Nat.le_refl _) (.cells [Value.pointer (nodeA qg n0 0), Value.pointer (nodeA qw n1 0)].toArray 38)) (by omega)
              have hUK : w6.heap.size ≤ y3.heap.size := by have := px4.q2; omega
              have hLK : w.heap.size ≤ y3.heap.size := by have := px4.lo; omega
              have st0 : St (y3.alloc (.cells [Value.pointer (nodeA qg n0 0), Value.pointer (nodeA qw n1 0)].toArray 38)) y3.heap.size w4.heap.size w5.heap.size w6.heap.size hg n0 hh n1 qg qw fg fw 0 0 :=
                ⟨⟨cell_new y3 _ 38 0 _ rfl, cell_new y3 _ 38 1 _ rfl, free_new y3 _ 38 0, free_new y3 _ 38 1⟩, px4.cg, px4.cw, hUK⟩
              have hbel := px4.bel
              have ST0 : Hid _ := st0
              have HBEL : Hid _ := hbel
              clear hy1 hy2 hy3 z2 z3 px3 px4 st0 ix1 ix2 mp2 qc2 hp2 MP PX HPX hbel hz3 hV5 hVm hs4 hs5 hs6 hs7 hlt3 hmlt hUm hik hik' hi
              go_wp2
              go_loopw [18, 19, 20, 21] (fun tg tw tl t wr => ∃ (gi wi : Nat) (last : Int), gi ≤ n0 ∧ wi ≤ n1 ∧ tg = .int .i64 gi ∧ tw = .int .i64 wi ∧ tl = .int .u32 last ∧ t = .int .i64 ((gi : Int) + wi) ∧
                St wr y3.heap.size w4.heap.size w5.heap.size w6.heap.size hg n0 hh n1 qg qw fg fw gi wi ∧ (0 < gi + wi → (gi < n0 → last < fg gi) ∧ (wi < n1 → last < fw wi)) ∧ Below w.heap.size w wr) (fun _ _ _ t _ => n0 + n1 - (intOf t).toNat)
              case atStart => exact ⟨0, 0, 0, by omega, by omega, rfl, rfl, rfl, rfl, ST0.out, by omega, HBEL.out⟩
              case round =>
                clear ST0 HBEL
                obtain ⟨gi, wi, last, hgi, hwi, rfl, rfl, rfl, rfl, hst, hlast, hbel⟩ := hrel
                have HST : Hid _ := hst
                have HL : Hid _ := hlast
                have HBEL : Hid _ := hbel
                clear hst hlast hbel
                by_cases hjn : gi + wi < n0 + n1
                · have hjn' : (gi : Int) + wi < n0 + n1 := by omega
                  by_cases hc : gi < n0 ∧ (wi < n1 → ¬ fw wi < fg gi)
                  · have hnext := next_g HST.out hc.1 hc.2
                    rw [nodeA_in hc.1] at hnext
                    have HNEXT : Hid _ := hnext
                    have hE := fun W => eql_same ⟨qg gi, 0, none⟩ W
                    have hgn : (gi : Int) < n0 := by omega
                    have hsG : 0 < gi + wi → last < fg gi := fun h => (HL.out h).1 hc.1
                    have HNEW : Hid ((gi + 1 < n0 → fg gi < fg (gi + 1)) ∧ (wi < n1 → fg gi < fw wi)) := ⟨fun h => G0.out gi h, fun h => by have h1 := hc.2 h; have h2 := apart hOO.out HD.out hc.1 h; omega⟩
                    have hc1 := hc.1
                    clear hnext hc HL
                    by_cases hz : gi + wi = 0
                    · have hz' : ¬ (0 : Int) < (gi : Int) + wi := by omega
                      clear hsG
                      go_wp2_with (first
                        | (go_at_call 18; refine Calls.mono HNEXT.out ?_; rintro e x1 ⟨rfl, hst1, hx1⟩; have cG := hst1.cg.row.cell gi hc1; rw [nodeA_in hc1] at cG; have lG := hst1.cg.lock gi hc1)
                        | (go_at_call 22; refine (lockSeq_any _ _ _ _ lG).mono ?_; rintro e x2 ⟨rfl, rfl⟩))
                      go_roundw
                      case rel => exact ⟨gi + 1, wi, _, by omega, by omega, by go_num, by go_num, rfl, by go_num, hst1, fun _ => HNEW.out, Below.trans HBEL.out (hx1.mono hLK)⟩
                      case measure => simp [intOf]; omega
                    · have hz' : (0 : Int) < (gi : Int) + wi := by omega
                      have hs := hsG (by omega)
                      clear hsG
                      go_wp2_with (first
                        | (go_at_call 18; refine Calls.mono HNEXT.out ?_; rintro e x1 ⟨rfl, hst1, hx1⟩; have cG := hst1.cg.row.cell gi hc1; rw [nodeA_in hc1] at cG; have lG := hst1.cg.lock gi hc1)
                        | (go_at_call 22; refine (lockSeq_any _ _ _ _ lG).mono ?_; rintro e x2 ⟨rfl, rfl⟩))
                      go_roundw
                      case rel => exact ⟨gi + 1, wi, _, by omega, by omega, by go_num, by go_num, rfl, by go_num, hst1, fun _ => HNEW.out, Below.trans HBEL.out (hx1.mono hLK)⟩
                      case measure => simp [intOf]; omega
                  · have h1' : wi < n1 := by
                      by_cases h2 : wi < n1
                      · exact h2
                      · exact absurd ⟨by omega, fun h3 => absurd h3 h2⟩ hc
                    have h2' : gi < n0 → fw wi < fg gi := by
                      intro h3
                      by_cases h4 : fw wi < fg gi
                      · exact h4
                      · exact absurd ⟨h3, fun _ => h4⟩ hc
                    have hnext := next_w HST.out h1' h2'
                    rw [nodeA_in h1'] at hnext
                    have HNEXT : Hid _ := hnext
                    have hE := fun W => eql_same ⟨qw wi, 0, none⟩ W
                    have hwn : (wi : Int) < n1 := by omega
                    have hsW : 0 < gi + wi → last < fw wi := fun h => (HL.out h).2 h1'
                    have HNEW : Hid ((gi < n0 → fw wi < fg gi) ∧ (wi + 1 < n1 → fw wi < fw (wi + 1))) := ⟨h2', fun h => G1.out wi h⟩
                    clear hnext hc HL h2'
                    by_cases hgn : gi < n0
                    · have hgn' : (gi : Int) < n0 := by omega
                      by_cases hz : gi + wi = 0
                      · have hz' : ¬ (0 : Int) < (gi : Int) + wi := by omega
                        clear hsW
                        go_wp2_with (first
                          | (go_at_call 18; refine Calls.mono HNEXT.out ?_; rintro e x1 ⟨rfl, hst1, hx1⟩; have cW := hst1.cw.row.cell wi h1'; rw [nodeA_in h1'] at cW; have lW := hst1.cw.lock wi h1'; have cG := hst1.cg.row.cell gi hgn; rw [nodeA_in hgn] at cG; have lG := hst1.cg.lock gi hgn; have hne : qw wi ≠ qg gi := (by have := hst1.cw.lock_lo wi h1'; have := hst1.cg.lock_hi gi hgn; omega); have hO2 := eql_other hne x1 lG lW)
                          | (go_at_call 22; refine (lockSeq_any _ _ _ _ lW).mono ?_; rintro e x2 ⟨rfl, rfl⟩))
                        go_roundw
                        case rel => exact ⟨gi, wi + 1, _, by omega, by omega, by go_num, by go_num, rfl, by go_num, hst1, fun _ => HNEW.out, Below.trans HBEL.out (hx1.mono hLK)⟩
                        case measure => simp [intOf]; omega
                      · have hz' : (0 : Int) < (gi : Int) + wi := by omega
                        have hs := hsW (by omega)
                        clear hsW
                        go_wp2_with (first
                          | (go_at_call 18; refine Calls.mono HNEXT.out ?_; rintro e x1 ⟨rfl, hst1, hx1⟩; have cW := hst1.cw.row.cell wi h1'; rw [nodeA_in h1'] at cW; have lW := hst1.cw.lock wi h1'; have cG := hst1.cg.row.cell gi hgn; rw [nodeA_in hgn] at cG; have lG := hst1.cg.lock gi hgn; have hne : qw wi ≠ qg gi := (by have := hst1.cw.lock_lo wi h1'; have := hst1.cg.lock_hi gi hgn; omega); have hO2 := eql_other hne x1 lG lW)
                          | (go_at_call 22; refine (lockSeq_any _ _ _ _ lW).mono ?_; rintro e x2 ⟨rfl, rfl⟩))
                        go_roundw
                        case rel => exact ⟨gi, wi + 1, _, by omega, by omega, by go_num, by go_num, rfl, by go_num, hst1, fun _ => HNEW.out, Below.trans HBEL.out (hx1.mono hLK)⟩
                        case measure => simp [intOf]; omega
                    · have hgn' : ¬ (gi : Int) < n0 := by omega
                      by_cases hz : gi + wi = 0
                      · have hz' : ¬ (0 : Int) < (gi : Int) + wi := by omega
                        clear hsW
                        go_wp2_with (first
                          | (go_at_call 18; refine Calls.mono HNEXT.out ?_; rintro e x1 ⟨rfl, hst1, hx1⟩; have cW := hst1.cw.row.cell wi h1'; rw [nodeA_in h1'] at cW; have lW := hst1.cw.lock wi h1')
                          | (go_at_call 22; refine (lockSeq_any _ _ _ _ lW).mono ?_; rintro e x2 ⟨rfl, rfl⟩))
                        go_roundw
                        case rel => exact ⟨gi, wi + 1, _, by omega, by omega, by go_num, by go_num, rfl, by go_num, hst1, fun _ => HNEW.out, Below.trans HBEL.out (hx1.mono hLK)⟩
                        case measure => simp [intOf]; omega
                      · have hz' : (0 : Int) < (gi : Int) + wi := by omega
                        have hs := hsW (by omega)
                        clear hsW
                        go_wp2_with (first
                          | (go_at_call 18; refine Calls.mono HNEXT.out ?_; rintro e x1 ⟨rfl, hst1, hx1⟩; have cW := hst1.cw.row.cell wi h1'; rw [nodeA_in h1'] at cW; have lW := hst1.cw.lock wi h1')
                          | (go_at_call 22; refine (lockSeq_any _ _ _ _ lW).mono ?_; rintro e x2 ⟨rfl, rfl⟩))
                        go_roundw
                        case rel => exact ⟨gi, wi + 1, _, by omega, by omega, by go_num, by go_num, rfl, by go_num, hst1, fun _ => HNEW.out, Below.trans HBEL.out (hx1.mono hLK)⟩
                        case measure => simp [intOf]; omega
                · have hjn' : ¬ (gi : Int) + wi < n0 + n1 := by omega
                  have HE : Hid _ := next_end HST.out (show ¬ gi < n0 by omega) (show ¬ wi < n1 by omega)
                  go_wp2_with (go_at_call 18; refine Calls.mono HE.out ?_; rintro e x1 ⟨rfl, jj, rfl⟩)
                  go_ret
                  exact ⟨rfl, below_drewN HBEL.out _⟩
  · obtain rfl := hs.is_false hD
    clear hs hD
    go_wp2
    go_ret
    exact ⟨rfl, b3.trans (hw4.mono b3.size)⟩
end Go.Proofs.Qxb6614371a
