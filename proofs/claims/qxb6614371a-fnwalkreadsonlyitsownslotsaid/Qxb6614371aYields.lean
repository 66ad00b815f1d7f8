import Derived.Test.Qxb6614371aEarly
namespace Go.Proofs.Qxb6614371a
open Go.RowKit Go.Maps
set_option linter.unusedVariables false
set_option linter.unusedSimpArgs false

/-- What the two laws have laid when the walk begins: the two chains, the sorted positions, the head of the granted queue in the slot's place of the index's queues (a row at block hQ). All lie below V. -/
structure Pre (w W : World) (B T U hQ V hg n0 hh n1 ho k : Nat) (qg qw : Nat → Nat) (fg fw : Nat → Int) (o : Nat → Nat) : Prop where
  cg : Chain W B T hg n0 qg fg
  cw : Chain W T U hh n1 qw fw
  ord : Own W ho (n0 + n1) (fun k => .int .i64 (o k : Nat))
  oU : ho < U
  qc : W.cell? ⟨hQ, k, none⟩ = some (.pointer (nodeA qg n0 0))
  q1 : U ≤ hQ
  q2 : hQ < V
  bel : Below w.heap.size w W
  lo : w.heap.size ≤ U
theorem Pre.below {w W W' : World} {B T U hQ V hg n0 hh n1 ho k : Nat} {qg qw : Nat → Nat} {fg fw : Nat → Int} {o : Nat → Nat} (h : Pre w W B T U hQ V hg n0 hh n1 ho k qg qw fg fw o) {C : Nat} (hb : Below C W W') (hC : V ≤ C) :
    Pre w W' B T U hQ V hg n0 hh n1 ho k qg qw fg fw o := by
  have h1 := h.q1; have h2 := h.q2; have h3 := h.oU; have h4 := h.lo
  have h5 := h.cw.lo; have h6 := h.cw.hi
  exact ⟨h.cg.below hb (by omega), h.cw.below hb (by omega), h.ord.below hb (by omega), h.oU, by rw [hb.cell (show hQ < C by omega)]; exact h.qc, h.q1, h.q2, h.bel.trans (hb.mono (by omega)), h.lo⟩

theorem i64_in (r : Nat) (h : r < 65536) : IntKind.i64.wrap (r : Int) = (r : Int) := by
  simp [IntKind.wrap, IntKind.bits, IntKind.signed]; omega
theorem ownsMap_below {B : Nat} {w w' : World} {m n : Nat} {D : DataW Unit} (h : w.ownsMap Try.prog 21 ptrElem m n D) (hb : Below B w w') (hB : m < B) : w'.ownsMap Try.prog 21 ptrElem m n D := by
  obtain ⟨es, clock, hh, hF, hs, hD⟩ := h
  exact ⟨es, clock, by rw [hb.block m hB]; exact hh, hF, hs, hD⟩
theorem hpx_below {w w' : World} {p : Option Nat} {x : Option Addr} (h : (p = none ∧ x = none) ∨ ∃ b, p = some b ∧ w.cell? ⟨b, 0, none⟩ = some (.pointer x)) (hb : Below w.heap.size w w') :
    (p = none ∧ x = none) ∨ ∃ b, p = some b ∧ w'.cell? ⟨b, 0, none⟩ = some (.pointer x) :=
  h.imp id (fun ⟨b, e, c⟩ => ⟨b, e, cell_below c hb (Nat.le_refl _)⟩)

set_option maxRecDepth 100000 in
set_option maxHeartbeats 4000000 in
theorem law5_main (k : Nat) (a0 a1 : Option Addr) (n0 c0 n1 c1 : Nat) (fg fw : Nat → Int) (w : World) (h0 : n0 ≤ 4096) (h1 : n1 ≤ 4096) (hk : k ≤ 65536) (m0 : Nms w a0 n0 fg) (m1 : Nms w a1 n1 fw)
    (g0 : ∀ i, i + 1 < n0 → fg i < fg (i + 1)) (g1 : ∀ i, i + 1 < n1 → fw i < fw (i + 1)) :
    Calls Try.prog 5 #[.int .i32 k, .slice a0 n0 c0, .slice a1 n1 c1] w fun e w' => e = .returned (.bool true) ∧ Below w.heap.size w w' := by
  obtain ⟨i0, hi, hz0, hz1, hz2⟩ := info_parts info32
  have hmm := @run_makeMap Try.prog
  have hk' : (k : Int) ≤ 65536 := by omega
  have G0 : Hid _ := g0
  have G1 : Hid _ := g1
  clear g0 g1
  go_enter Try.func5, Try.ntmps5
  go_upto_region 10 with (first
    | (go_at_call 8; refine (bytes_yes _ _ _ _ _ _ _ _ (by omega) (by omega)).mono ?_; rintro e w' ⟨rfl, rfl⟩)
    | (go_at_call_of 9 (Value.slice a0 n0 c0); refine (asc_any _ _ _ fg _ m0 h0).mono ?_; rintro e w1 ⟨hs, hw1⟩; obtain rfl := hs.is_true G0.out; clear hs; have m1' := m1.below hw1)
    | (go_at_call 9; refine (asc_any _ _ _ fw _ m1' h1).mono ?_; rintro e w2 ⟨hs, hw2⟩; obtain rfl := hs.is_true G1.out; clear hs; have b2 := hw1.trans (hw2.mono hw1.size); have u0 := m0.below b2; have u1 := m1.below b2)
    | (go_at_call 10; refine (order_any _ _ _ _ _ _ fg fw _ u0 u1 h0 h1).mono ?_; rintro e w3 ⟨rfl, hw3⟩))
  obtain ⟨⟨o, hO, hown⟩, hb3, hlt3⟩ := hw3
  have b3 := b2.trans (hb3.mono b2.size)
  have v0 := m0.below b3
  have v1 := m1.below b3
  have hOO : Hid _ := hO
  have hOW : Hid _ := hown
  clear m0 m1 m1' hw1 hw2 u0 u1 hb3
  by_cases hD : ∀ k, k + 1 < n0 + n1 → keyF n0 fg fw (o k) ≠ keyF n0 fg fw (o (k + 1))
  · have HD : Hid _ := hD
    clear hD hO hown
    go_upto_region 14 with (first
      | (go_at_call 11; refine (distinct_any _ _ _ _ _ _ w2.heap.size fg fw o _ v0 v1 h0 h1 hOO.out hOW.out).mono ?_; rintro e w4 ⟨hs, hw4⟩; obtain rfl := hs.is_true HD.out; clear hs; have x0 := v0.below hw4)
      | (go_at_call_of 12 (Value.slice a0 n0 c0); refine (chain_any _ _ _ fg _ x0 h0).mono ?_; rintro e w5 ⟨hg, qg, rfl, cg, hw5⟩; have x1 := (v1.below hw4).below hw5)
      | (go_at_call 12; refine (chain_any _ _ _ fw _ x1 h1).mono ?_; rintro e w6 ⟨hh, qw, rfl, cw, hw6⟩))
    have cg6 := cg.below hw6 (Nat.le_refl _)
    have hs4 := hw4.size
    have hs5 := hw5.size
    have hs6 := hw6.size
    have o6 : Own w6 w2.heap.size (n0 + n1) (fun k => .int .i64 (o k : Nat)) := ((hOW.out.below hw4 hlt3).below hw5 (by omega)).below hw6 (by omega)
    have b4 := b3.trans (hw4.mono b3.size)
    have b5 := b4.trans (hw5.mono b4.size)
    have b6 := b5.trans (hw6.mono b5.size)
    clear hw4 hw5 hw6 x0 x1 v0 v1 cg b2 b3 b4 b5 hOW
    go_upto_region 15 with (first | (at_make; refine wpList_make_full _ rfl _ _ 30 rfl w6.heap.size 32 i0 (.pointer none) 1 Try.underlying30 hi hz0 hz1 _ _ _ _ (k + 1) rfl rfl (by omega) (by omega) (by rw [hz2]; omega) (by unfold maxLen; omega) (Nat.le_refl _) ?_; intro w7 hown hgrow))
    obtain ⟨hq, hyl⟩ := made_block hown
    rw [show (Value.pointer none).cells = #[Value.pointer none] from rfl, made_rep] at hq
    have F0 := own_made hq
    have hs7 := lt_of_heap hq
    have hB7 : Below w6.heap.size w6 w7 := (Below.refl _ _).grown hgrow (Nat.le_refl _) (by simp)
    clear hown hgrow hq hyl hi hz0 hz1 hz2
    have ck := F0.cell k (by omega)
    have fk := F0.free k (by omega)
    have cg7 := cg6.below hB7 hs6
    have P7 : Pre w (w7.setCell ⟨w6.heap.size, k, none⟩ (.pointer (nodeA qg n0 0))) w4.heap.size w5.heap.size w6.heap.size w6.heap.size w7.heap.size hg n0 hh n1 w2.heap.size k qg qw fg fw o :=
      ⟨cg7.other (by simp; omega) _, (cw.below hB7 (Nat.le_refl _)).other (by simp) _, (o6.below hB7 (by omega)).other (by simp; omega) _, by omega, World.cell?_setCell_same _ _ _ ck, Nat.le_refl _, hs7,
        (b6.trans (hB7.mono b6.size)).setCell b6.size _, b6.size⟩
    have PP : Hid _ := P7
    clear cg6 cw o6 b6 hB7 F0 P7
    have hk2 : (k : Int) < k + 1 := by omega
    go_upto_region 16 with (first
      | (go_at_call 13; refine (head_any hg n0 qg _ h0 cg7.row).mono ?_; rintro e w8 ⟨rfl, rfl⟩))
    go_cut [11] (fun x W => ∃ m, x = .map (some m) ∧ W.ownsMap (H := Unit) Try.prog 21 ptrElem m 0 (.map []) ∧ w7.heap.size ≤ m ∧
      Pre w W w4.heap.size w5.heap.size w6.heap.size w6.heap.size w7.heap.size hg n0 hh n1 w2.heap.size k qg qw fg fw o)
    case first =>
      go_wp2
      go_meet
      case rel =>
        have hmade := World.ownsMap_made (H := Unit) (w7.setCell ⟨w6.heap.size, k, none⟩ (.pointer (nodeA qg n0 0))) Try.prog 21 ptrElem
        rw [show (w7.setCell ⟨w6.heap.size, k, none⟩ (.pointer (nodeA qg n0 0))).heap.size = w7.heap.size by simp] at hmade
        exact ⟨_, rfl, hmade, Nat.le_refl _, PP.out.below ((Below.refl w7.heap.size _).alloc (by simp) _) (Nat.le_refl _)⟩
    case rest =>
      obtain ⟨m, rfl, hmap, hm7, px⟩ := hcut
      clear PP cg7 ck fk
      by_cases hn1 : n1 = 0
      · have hn1' : ¬ (0 : Int) < n1 := by omega
        clear hn1
        have hV : w7.heap.size ≤ wc.heap.size := by have := hmap.lt; omega
        obtain ⟨p, hpe⟩ : ∃ p : Option Nat, p = none := ⟨_, rfl⟩
        have MP : Hid (Mp wc m k p) := by rw [hpe]; exact ⟨0, _, hmap, by omega, rfl⟩
        have PX : Hid _ := px
        have HPX : Hid ((p = none ∧ nodeA qw n1 0 = none) ∨ ∃ b, p = some b ∧ wc.cell? ⟨b, 0, none⟩ = some (.pointer (nodeA qw n1 0))) := Or.inl ⟨hpe, nodeA_out (by omega)⟩
        clear hmap px hpe hmm
        go_upto_region 19 with fail
        go_upto_region 20 with (first
          | (go_at_call 17; refine (newIx_any w6.heap.size (k + 1) m _).mono ?_; rintro e y1 ⟨rfl, ix1, hy1⟩)
          | (go_at_call 16; refine (newPlace_any _ _ _).mono ?_; rintro e y2 ⟨rfl, hy2⟩; have z2 := hy1.trans (hy2.mono hy1.size); have ix2 := ix1.below hy2 ix1.lt; have mp2 := Mp.below MP.out z2 (Mp.lt MP.out); have qc2 := cell_below (Pre.qc PX.out) z2 (Nat.le_refl _); have hp2 := hpx_below HPX.out z2)
          | (go_at_call 15; refine (zwalk_any _ w6.heap.size (k + 1) m k p _ _ _ ix2 mp2 (by omega) (by omega) qc2 hp2).mono ?_; rintro e y3 ⟨rfl, hy3⟩))
        have z3 := z2.trans (hy3.mono z2.size)
        have px3 := Pre.below PX.out z3 hV
        have hz3 := z3.size
        have px4 := Pre.below px3 ((Below.refl y3.heap.size y3).alloc (Nat.le_refl _) (.cells [Value.pointer (nodeA qg n0 0), Value.pointer (nodeA qw n1 0)].toArray 38)) (by omega)
        have hUK : w6.heap.size ≤ y3.heap.size := by omega
        have hOK : w2.heap.size < y3.heap.size := by have := Pre.oU PX.out; omega
        have hLK : w.heap.size ≤ y3.heap.size := by have := Pre.lo PX.out; omega
        have st0 : St (y3.alloc (.cells [Value.pointer (nodeA qg n0 0), Value.pointer (nodeA qw n1 0)].toArray 38)) y3.heap.size w4.heap.size w5.heap.size w6.heap.size hg n0 hh n1 qg qw fg fw 0 0 :=
          ⟨⟨cell_new y3 _ 38 0 _ rfl, cell_new y3 _ 38 1 _ rfl, free_new y3 _ 38 0, free_new y3 _ 38 1⟩, px4.cg, px4.cw, hUK⟩
        have hord := px4.ord
        have hbel := px4.bel
        have ST0 : Hid _ := st0
        have HORD : Hid _ := hord
        have HBEL : Hid _ := hbel
        clear hy1 hy2 hy3 z2 z3 px3 px4 st0 ix1 ix2 mp2 qc2 hp2 MP PX HPX hord hbel hz3 hV hm7 hs4 hs5 hs6 hs7 hlt3
        go_wp2
        go_loopw [13] (fun t wr => ∃ j gi wi : Nat, j ≤ n0 + n1 ∧ t = .int .i64 j ∧ gi ≤ n0 ∧ wi ≤ n1 ∧ Done o (n0 + n1) n0 j gi wi ∧ St wr y3.heap.size w4.heap.size w5.heap.size w6.heap.size hg n0 hh n1 qg qw fg fw gi wi ∧
          Own wr w2.heap.size (n0 + n1) (fun k => .int .i64 (o k : Nat)) ∧ Below w.heap.size w wr) (fun t _ => n0 + n1 - (intOf t).toNat)
        case atStart => exact ⟨0, 0, 0, by omega, rfl, by omega, by omega, done_start _ _ _, ST0.out, HORD.out, HBEL.out⟩
        case round =>
          clear ST0 HORD HBEL
          obtain ⟨j, gi, wi, hj, rfl, hgi, hwi, hdone, hst, hord, hbel⟩ := hrel
          have HDN : Hid _ := hdone
          have HST : Hid _ := hst
          have HORD : Hid _ := hord
          have HBEL : Hid _ := hbel
          clear hdone hst hord hbel
          by_cases hjn : j < n0 + n1
          · have hjn' : (j : Int) < n0 + n1 := by omega
            have hoj := hOO.out.lt j hjn
            have hcase : ∃ (r : Nat) (gi' wi' : Nat), nodeF n0 n1 qg qw (o j) = some ⟨r, 0, none⟩ ∧ gi' ≤ n0 ∧ wi' ≤ n1 ∧ Done o (n0 + n1) n0 (j + 1) gi' wi' ∧
                ∀ W, St W y3.heap.size w4.heap.size w5.heap.size w6.heap.size hg n0 hh n1 qg qw fg fw gi wi → Calls Try.prog 18 #[.pointer (some ⟨y3.heap.size, 0, none⟩)] W fun e w' => e = .returned (.pointer (some ⟨r, 0, none⟩)) ∧
                  St w' y3.heap.size w4.heap.size w5.heap.size w6.heap.size hg n0 hh n1 qg qw fg fw gi' wi' ∧ Below y3.heap.size W w' := by
              by_cases hc : gi < n0 ∧ (wi < n1 → ¬ fw wi < fg gi)
              · obtain ⟨e, hd⟩ := pick_g hOO.out HD.out G0.out G1.out HDN.out hjn hc.1 hwi hc.2
                refine ⟨qg gi, gi + 1, wi, ?_, by omega, hwi, hd, fun W hW => ?_⟩
                · rw [e]; unfold nodeF; rw [if_pos hc.1, nodeA_in hc.1]
                · have := next_g hW hc.1 hc.2
                  rw [nodeA_in hc.1] at this
                  exact this
              · have hl := some_left hOO.out HD.out HDN.out hjn
                have h1 : wi < n1 := by
                  rcases hl with h | h
                  · by_cases h2 : wi < n1
                    · exact h2
                    · exact absurd ⟨h, fun h3 => absurd h3 h2⟩ hc
                  · exact h
                have h2 : gi < n0 → fw wi < fg gi := by
                  intro h3
                  by_cases h4 : fw wi < fg gi
                  · exact h4
                  · exact absurd ⟨h3, fun _ => h4⟩ hc
                obtain ⟨e, hd⟩ := pick_w hOO.out HD.out G0.out G1.out HDN.out hjn hgi h1 h2
                refine ⟨qw wi, gi, wi + 1, ?_, hgi, by omega, hd, fun W hW => ?_⟩
                · rw [e]; unfold nodeF; rw [if_neg (by omega), show n0 + wi - n0 = wi by omega, nodeA_in h1]
                · have := next_w hW h1 h2
                  rw [nodeA_in h1] at this
                  exact this
            obtain ⟨r, gi', wi', hnode, hgi', hwi', hdone', hnext⟩ := hcase
            have HNODE : Hid _ := hnode
            have HNEXT : Hid _ := hnext
            have HDN' : Hid _ := hdone'
            have hNode : ∀ (W : World) (ga wa : Nat), St W y3.heap.size w4.heap.size w5.heap.size w6.heap.size hg n0 hh n1 qg qw fg fw ga wa → Calls Try.prog 19 #[.slice (some ⟨hg, 0, none⟩) n0 n0, .slice (some ⟨hh, 0, none⟩) n1 n1, .int .i64 (o j : Nat)] W fun e w' => e = .returned (.pointer (some ⟨r, 0, none⟩)) ∧ W = w' := by
              intro W ga wa hW
              have := node_any hg n0 hh n1 (o j) qg qw W h0 h1 hoj hW.cg.row hW.cw.row
              rw [HNODE.out] at this
              exact this
            have HN : Hid _ := hNode
            clear hnode hnext hdone' hNode
            go_upto_region 23 with fail
            refine wp_region_held_drew (S := Below y3.heap.size wr) (by kernel_rfl) (Below.refl _ _).drew (fun hS => ?_)
            refine wpAnyH_take (i := 1) (v := .slice (some ⟨hg, 0, none⟩) n0 n0) rfl (by kernel_rfl) (by kernel_rfl) (by kernel_rfl) (fun _ _ _ h => h) (Or.inl ⟨by rfl, fun W hW => by go_simp⟩) hS ?_
            simp only [Act.put, List.getElem_toArray, List.getElem_cons_zero, List.getElem_cons_succ, List.setIfInBounds_toArray, List.set_cons_zero, List.set_cons_succ]
            refine wpAnyH_take (i := 2) (v := .slice (some ⟨hh, 0, none⟩) n1 n1) rfl (by kernel_rfl) (by kernel_rfl) (by kernel_rfl) (fun _ _ _ h => h) (Or.inl ⟨by rfl, fun W hW => by go_simp⟩) hS ?_
            simp only [Act.put, List.getElem_toArray, List.getElem_cons_zero, List.getElem_cons_succ, List.setIfInBounds_toArray, List.set_cons_zero, List.set_cons_succ]
            refine wpAnyH_take (i := 3) (v := .slice (some ⟨w2.heap.size, 0, none⟩) (n0 + n1) (n0 + n1)) rfl (by kernel_rfl) (by kernel_rfl) (by kernel_rfl) (fun _ _ _ h => h) (Or.inl ⟨by rfl, fun W hW => by go_simp⟩) hS ?_
            simp only [Act.put, List.getElem_toArray, List.getElem_cons_zero, List.getElem_cons_succ, List.setIfInBounds_toArray, List.set_cons_zero, List.set_cons_succ]
            refine wpAnyH_take (i := 4) (v := .int .i64 j) rfl (by kernel_rfl) (by kernel_rfl) (by kernel_rfl) (fun _ _ _ h => h) (Or.inl ⟨by rfl, fun W hW => by go_simp⟩) hS ?_
            simp only [Act.put, List.getElem_toArray, List.getElem_cons_zero, List.getElem_cons_succ, List.setIfInBounds_toArray, List.set_cons_zero, List.set_cons_succ]
            refine wpAnyH_take (i := 5) (v := .pointer (some ⟨w2.heap.size, j, none⟩)) rfl (by kernel_rfl) (by kernel_rfl) (by kernel_rfl) (fun _ _ _ h => h) (Or.inl ⟨by rfl, fun W hW => by go_simp⟩) hS ?_
            simp only [Act.put, List.getElem_toArray, List.getElem_cons_zero, List.getElem_cons_succ, List.setIfInBounds_toArray, List.set_cons_zero, List.set_cons_succ]
            refine wpAnyH_take (i := 6) (v := .int .i64 (o j : Nat)) rfl (by kernel_rfl) (by kernel_rfl) (by kernel_rfl) (fun _ _ _ h => h) (Or.inl ⟨by rfl, fun W hW => by have c := (Own.below HORD.out hW hOK).cell j hjn; go_simp⟩) hS ?_
            simp only [Act.put, List.getElem_toArray, List.getElem_cons_zero, List.getElem_cons_succ, List.setIfInBounds_toArray, List.set_cons_zero, List.set_cons_succ]
            refine wpAnyH_ready (rs := [0]) (by kernel_rfl) (by simp) (AllReadyH.cons rfl (fun K hK => ?_) AllReadyH.nil)
            · go_simp
              refine (HNEXT.out (wr.drewN 1) (St.drewN HST.out 1)).mono ?_
              rintro e x1 ⟨rfl, hst1, hx1⟩
              refine hK.out _ _ ((below_drewN (Below.refl _ _) 1).trans hx1) (fun hS1 => ?_)
              clear hK
              refine wpAnyH_ready (rs := [7]) (by kernel_rfl) (by simp) (AllReadyH.cons rfl (fun K hK => ?_) AllReadyH.nil)
              go_simp
              refine (HN.out x1 _ _ hst1).mono ?_
              rintro e x2 ⟨rfl, rfl⟩
              refine hK.out _ _ hS1 (fun hS2 => ?_)
              clear hK
              refine wpAnyH_take (i := 8) (v := .bool false) rfl (by kernel_rfl) (by kernel_rfl) (by kernel_rfl) (fun _ _ _ h => h) (Or.inl ⟨by rfl, fun W hW => by have c := neq_same ⟨r, 0, none⟩ W; go_simp⟩) hS2 ?_
              simp only [Act.put, List.getElem_toArray, List.getElem_cons_zero, List.getElem_cons_succ, List.setIfInBounds_toArray, List.set_cons_zero, List.set_cons_succ]
              refine wpAnyH_done (by kernel_rfl) ?_ _
              have HS2 : Hid _ := hS2
              clear hS1 hS2 hx1 hS
              go_wp2
              go_roundw
              case rel => exact ⟨j + 1, gi', wi', by omega, by go_num, hgi', hwi', HDN'.out, hst1, Own.below HORD.out HS2.out hOK, Below.trans HBEL.out (Below.mono HS2.out hLK)⟩
              case measure => simp [intOf]; omega
          · have hjn' : ¬ (j : Int) < n0 + n1 := by omega
            obtain rfl : j = n0 + n1 := by omega
            obtain ⟨e1, e2⟩ := none_left hOO.out HDN.out hgi hwi
            have HE : Hid _ := next_end HST.out e1 e2
            clear e1 e2
            go_wp2_with (go_at_call 18; refine Calls.mono HE.out ?_; rintro e x1 ⟨rfl, jj, rfl⟩)
            go_ret
            exact ⟨rfl, below_drewN HBEL.out _⟩
      · have hn1' : (0 : Int) < n1 := by omega
        obtain ⟨r, hr⟩ : ∃ r : Nat, (n1 : Int) - 1 = r := ⟨n1 - 1, by omega⟩
        have hr1 : (r : Int) < n1 := by omega
        have hmlt := hmap.lt
        have hUm : w6.heap.size ≤ m := by omega
        have HMAP : Hid _ := hmap
        have PX0 : Hid _ := px
        clear hmap px hmm hn1
        go_upto_region 18 with fail
        refine wp_region_held_drew (S := Below m wc) (by kernel_rfl) (Below.refl _ _).drew (fun hS => ?_)
        refine wpAnyH_take (i := 0) (v := .map (some m)) rfl (by kernel_rfl) (by kernel_rfl) (by kernel_rfl) (fun _ _ _ h => h) (Or.inl ⟨by rfl, fun W hW => by go_simp⟩) hS ?_
        simp only [Act.put, List.getElem_toArray, List.getElem_cons_zero, List.getElem_cons_succ, List.setIfInBounds_toArray, List.set_cons_zero, List.set_cons_succ]
        refine wpAnyH_take (i := 1) (v := .int .i32 k) rfl (by kernel_rfl) (by kernel_rfl) (by kernel_rfl) (fun _ _ _ h => h) (Or.inl ⟨by rfl, fun W hW => by go_simp⟩) hS ?_
        simp only [Act.put, List.getElem_toArray, List.getElem_cons_zero, List.getElem_cons_succ, List.setIfInBounds_toArray, List.set_cons_zero, List.set_cons_succ]
        refine wpAnyH_take (i := 2) (v := .slice (some ⟨hh, 0, none⟩) n1 n1) rfl (by kernel_rfl) (by kernel_rfl) (by kernel_rfl) (fun _ _ _ h => h) (Or.inl ⟨by rfl, fun W hW => by go_simp⟩) hS ?_
        simp only [Act.put, List.getElem_toArray, List.getElem_cons_zero, List.getElem_cons_succ, List.setIfInBounds_toArray, List.set_cons_zero, List.set_cons_succ]
        refine wpAnyH_take (i := 3) (v := .pointer (some ⟨hh, 0, none⟩)) rfl (by kernel_rfl) (by kernel_rfl) (by kernel_rfl) (fun _ _ _ h => h) (Or.inl ⟨by rfl, fun W hW => by go_simp⟩) hS ?_
        simp only [Act.put, List.getElem_toArray, List.getElem_cons_zero, List.getElem_cons_succ, List.setIfInBounds_toArray, List.set_cons_zero, List.set_cons_succ]
        refine wpAnyH_take (i := 4) (v := .pointer (nodeA qw n1 0)) rfl (by kernel_rfl) (by kernel_rfl) (by kernel_rfl) (fun _ _ _ h => h) (Or.inl ⟨by rfl, fun W hW => by have c := (Chain.below (Pre.cw PX0.out) hW hUm).row.cell 0 (by omega); go_simp⟩) hS ?_
        simp only [Act.put, List.getElem_toArray, List.getElem_cons_zero, List.getElem_cons_succ, List.setIfInBounds_toArray, List.set_cons_zero, List.set_cons_succ]
        refine wpAnyH_take (i := 5) (v := .slice (some ⟨hh, 0, none⟩) n1 n1) rfl (by kernel_rfl) (by kernel_rfl) (by kernel_rfl) (fun _ _ _ h => h) (Or.inl ⟨by rfl, fun W hW => by go_simp⟩) hS ?_
        simp only [Act.put, List.getElem_toArray, List.getElem_cons_zero, List.getElem_cons_succ, List.setIfInBounds_toArray, List.set_cons_zero, List.set_cons_succ]
        refine wpAnyH_take (i := 6) (v := .slice (some ⟨hh, 0, none⟩) n1 n1) rfl (by kernel_rfl) (by kernel_rfl) (by kernel_rfl) (fun _ _ _ h => h) (Or.inl ⟨by rfl, fun W hW => by go_simp⟩) hS ?_
        simp only [Act.put, List.getElem_toArray, List.getElem_cons_zero, List.getElem_cons_succ, List.setIfInBounds_toArray, List.set_cons_zero, List.set_cons_succ]
        refine wpAnyH_take (i := 7) (v := .int .i64 n1) rfl (by kernel_rfl) (by kernel_rfl) (by kernel_rfl) (fun _ _ _ h => h) (Or.inl ⟨by rfl, fun W hW => by go_simp⟩) hS ?_
        simp only [Act.put, List.getElem_toArray, List.getElem_cons_zero, List.getElem_cons_succ, List.setIfInBounds_toArray, List.set_cons_zero, List.set_cons_succ]
        refine wpAnyH_take (i := 8) (v := .int .i64 r) rfl (by kernel_rfl) (by kernel_rfl) (by kernel_rfl) (fun _ _ _ h => h) (Or.inl ⟨by rfl, fun W hW => by go_simp; exact i64_in r (by omega)⟩) hS ?_
        simp only [Act.put, List.getElem_toArray, List.getElem_cons_zero, List.getElem_cons_succ, List.setIfInBounds_toArray, List.set_cons_zero, List.set_cons_succ]
        refine wpAnyH_take (i := 9) (v := .pointer (some ⟨hh, r, none⟩)) rfl (by kernel_rfl) (by kernel_rfl) (by kernel_rfl) (fun _ _ _ h => h) (Or.inl ⟨by rfl, fun W hW => by go_simp⟩) hS ?_
        simp only [Act.put, List.getElem_toArray, List.getElem_cons_zero, List.getElem_cons_succ, List.setIfInBounds_toArray, List.set_cons_zero, List.set_cons_succ]
        refine wpAnyH_take (i := 10) (v := .pointer (nodeA qw n1 r)) rfl (by kernel_rfl) (by kernel_rfl) (by kernel_rfl) (fun _ _ _ h => h) (Or.inl ⟨by rfl, fun W hW => by have c := (Chain.below (Pre.cw PX0.out) hW hUm).row.cell r (by omega); go_simp⟩) hS ?_
        simp only [Act.put, List.getElem_toArray, List.getElem_cons_zero, List.getElem_cons_succ, List.setIfInBounds_toArray, List.set_cons_zero, List.set_cons_succ]
        refine wpAnyH_ready (rs := [11]) (by kernel_rfl) (by simp) (AllReadyH.cons rfl (fun K hK => ?_) AllReadyH.nil)
        go_simp
        refine (newWq_any _ _ (wc.drewN 1)).mono ?_
        rintro e v1 ⟨rfl, cq, hv1⟩
        have hv1' : Below wc.heap.size wc v1 := (below_drewN (Below.refl _ _) 1).trans hv1
        refine hK.out _ _ (hv1'.mono (Nat.le_of_lt hmlt)) (fun hS1 => ?_)
        clear hK
        obtain ⟨v2, hrun, hown2, hgr⟩ := (ownsMap_below HMAP.out hv1' hmlt).update klaw Try.underlying34 (by unfold maxLen; omega) (keyOf_int_mk Try.underlying21 (a := (k : Int)) (by simp [Lit.wf, IntKind.min, IntKind.max, IntKind.signed, IntKind.bits]; omega)) (ptrElem_mk (some wc.heap.size))
        have hrun' : (Instr.mapUpdate 34 (.map (some m)) (.int .i32 k) (.pointer (some ⟨wc.heap.size, 0, none⟩))).run Try.prog v1 = .ok () v2 := hrun
        have hS2 : Below m wc v2 := (hv1'.mono (Nat.le_of_lt hmlt)).grown hgr (Nat.le_trans (Nat.le_of_lt hmlt) hv1'.size) (by intro i hi; cases hi; exact Nat.le_refl _)
        have cq2 : v2.cell? ⟨wc.heap.size, 0, none⟩ = some (.pointer (nodeA qw n1 0)) := by
          rw [World.cell?_of_block (w := v1) (hgr.block wc.heap.size (World.block_lt_of_cell? _ _ cq) (by intro h; cases h; omega))]; exact cq
        refine wpAnyH_ready (rs := [12]) (by kernel_rfl) (by simp) (AllReadyH.cons rfl (fun K hK => ?_) AllReadyH.nil)
        go_simp
        refine hK.out _ _ hS2 (fun hS3 => ?_)
        clear hK
        refine wpAnyH_done (by kernel_rfl) ?_ _
        obtain ⟨p, hpe⟩ : ∃ p : Option Nat, p = some wc.heap.size := ⟨_, rfl⟩
        have hV : w7.heap.size ≤ v2.heap.size := by have := hS2.size; omega
        have MP : Hid (Mp v2 m k p) := by rw [hpe]; exact ⟨1, _, hown2, by omega, atKey_put_same ⟨_, rfl⟩ (by trivial) _ _⟩
        have PX : Hid _ := Pre.below PX0.out hS2 hm7
        have HPX : Hid ((p = none ∧ nodeA qw n1 0 = none) ∨ ∃ b, p = some b ∧ v2.cell? ⟨b, 0, none⟩ = some (.pointer (nodeA qw n1 0))) := Or.inr ⟨_, hpe, cq2⟩
        clear hrun hrun' hown2 hgr hS2 hS3 cq2 cq hv1 hv1' hS hS1 HMAP PX0 hpe hr hr1 hmlt hUm
        go_upto_region 19 with fail
        go_upto_region 20 with (first
          | (go_at_call 17; refine (newIx_any w6.heap.size (k + 1) m _).mono ?_; rintro e y1 ⟨rfl, ix1, hy1⟩)
          | (go_at_call 16; refine (newPlace_any _ _ _).mono ?_; rintro e y2 ⟨rfl, hy2⟩; have z2 := hy1.trans (hy2.mono hy1.size); have ix2 := ix1.below hy2 ix1.lt; have mp2 := Mp.below MP.out z2 (Mp.lt MP.out); have qc2 := cell_below (Pre.qc PX.out) z2 (Nat.le_refl _); have hp2 := hpx_below HPX.out z2)
          | (go_at_call 15; refine (zwalk_any _ w6.heap.size (k + 1) m k p _ _ _ ix2 mp2 (by omega) (by omega) qc2 hp2).mono ?_; rintro e y3 ⟨rfl, hy3⟩))
        have z3 := z2.trans (hy3.mono z2.size)
        have px3 := Pre.below PX.out z3 hV
        have hz3 := z3.size
        have px4 := Pre.below px3 ((Below.refl y3.heap.size y3).alloc (Nat.le_refl _) (.cells [Value.pointer (nodeA qg n0 0), Value.pointer (nodeA qw n1 0)].toArray 38)) (by omega)
        have hUK : w6.heap.size ≤ y3.heap.size := by omega
        have hOK : w2.heap.size < y3.heap.size := by have := Pre.oU PX.out; omega
        have hLK : w.heap.size ≤ y3.heap.size := by have := Pre.lo PX.out; omega
        have st0 : St (y3.alloc (.cells [Value.pointer (nodeA qg n0 0), Value.pointer (nodeA qw n1 0)].toArray 38)) y3.heap.size w4.heap.size w5.heap.size w6.heap.size hg n0 hh n1 qg qw fg fw 0 0 :=
          ⟨⟨cell_new y3 _ 38 0 _ rfl, cell_new y3 _ 38 1 _ rfl, free_new y3 _ 38 0, free_new y3 _ 38 1⟩, px4.cg, px4.cw, hUK⟩
        have hord := px4.ord
        have hbel := px4.bel
        have ST0 : Hid _ := st0
        have HORD : Hid _ := hord
        have HBEL : Hid _ := hbel
        clear hy1 hy2 hy3 z2 z3 px3 px4 st0 ix1 ix2 mp2 qc2 hp2 MP PX HPX hord hbel hz3 hV hm7 hs4 hs5 hs6 hs7 hlt3
        go_wp2
        go_loopw [13] (fun t wr => ∃ j gi wi : Nat, j ≤ n0 + n1 ∧ t = .int .i64 j ∧ gi ≤ n0 ∧ wi ≤ n1 ∧ Done o (n0 + n1) n0 j gi wi ∧ St wr y3.heap.size w4.heap.size w5.heap.size w6.heap.size hg n0 hh n1 qg qw fg fw gi wi ∧
          Own wr w2.heap.size (n0 + n1) (fun k => .int .i64 (o k : Nat)) ∧ Below w.heap.size w wr) (fun t _ => n0 + n1 - (intOf t).toNat)
        case atStart => exact ⟨0, 0, 0, by omega, rfl, by omega, by omega, done_start _ _ _, ST0.out, HORD.out, HBEL.out⟩
        case round =>
          clear ST0 HORD HBEL
          obtain ⟨j, gi, wi, hj, rfl, hgi, hwi, hdone, hst, hord, hbel⟩ := hrel
          have HDN : Hid _ := hdone
          have HST : Hid _ := hst
          have HORD : Hid _ := hord
          have HBEL : Hid _ := hbel
          clear hdone hst hord hbel
          by_cases hjn : j < n0 + n1
          · have hjn' : (j : Int) < n0 + n1 := by omega
            have hoj := hOO.out.lt j hjn
            have hcase : ∃ (r : Nat) (gi' wi' : Nat), nodeF n0 n1 qg qw (o j) = some ⟨r, 0, none⟩ ∧ gi' ≤ n0 ∧ wi' ≤ n1 ∧ Done o (n0 + n1) n0 (j + 1) gi' wi' ∧
                ∀ W, St W y3.heap.size w4.heap.size w5.heap.size w6.heap.size hg n0 hh n1 qg qw fg fw gi wi → Calls Try.prog 18 #[.pointer (some ⟨y3.heap.size, 0, none⟩)] W fun e w' => e = .returned (.pointer (some ⟨r, 0, none⟩)) ∧
                  St w' y3.heap.size w4.heap.size w5.heap.size w6.heap.size hg n0 hh n1 qg qw fg fw gi' wi' ∧ Below y3.heap.size W w' := by
              by_cases hc : gi < n0 ∧ (wi < n1 → ¬ fw wi < fg gi)
              · obtain ⟨e, hd⟩ := pick_g hOO.out HD.out G0.out G1.out HDN.out hjn hc.1 hwi hc.2
                refine ⟨qg gi, gi + 1, wi, ?_, by omega, hwi, hd, fun W hW => ?_⟩
                · rw [e]; unfold nodeF; rw [if_pos hc.1, nodeA_in hc.1]
                · have := next_g hW hc.1 hc.2
                  rw [nodeA_in hc.1] at this
                  exact this
              · have hl := some_left hOO.out HD.out HDN.out hjn
                have h1 : wi < n1 := by
                  rcases hl with h | h
                  · by_cases h2 : wi < n1
                    · exact h2
                    · exact absurd ⟨h, fun h3 => absurd h3 h2⟩ hc
                  · exact h
                have h2 : gi < n0 → fw wi < fg gi := by
                  intro h3
                  by_cases h4 : fw wi < fg gi
                  · exact h4
                  · exact absurd ⟨h3, fun _ => h4⟩ hc
                obtain ⟨e, hd⟩ := pick_w hOO.out HD.out G0.out G1.out HDN.out hjn hgi h1 h2
                refine ⟨qw wi, gi, wi + 1, ?_, hgi, by omega, hd, fun W hW => ?_⟩
                · rw [e]; unfold nodeF; rw [if_neg (by omega), show n0 + wi - n0 = wi by omega, nodeA_in h1]
                · have := next_w hW h1 h2
                  rw [nodeA_in h1] at this
                  exact this
            obtain ⟨r, gi', wi', hnode, hgi', hwi', hdone', hnext⟩ := hcase
            have HNODE : Hid _ := hnode
            have HNEXT : Hid _ := hnext
            have HDN' : Hid _ := hdone'
            have hNode : ∀ (W : World) (ga wa : Nat), St W y3.heap.size w4.heap.size w5.heap.size w6.heap.size hg n0 hh n1 qg qw fg fw ga wa → Calls Try.prog 19 #[.slice (some ⟨hg, 0, none⟩) n0 n0, .slice (some ⟨hh, 0, none⟩) n1 n1, .int .i64 (o j : Nat)] W fun e w' => e = .returned (.pointer (some ⟨r, 0, none⟩)) ∧ W = w' := by
              intro W ga wa hW
              have := node_any hg n0 hh n1 (o j) qg qw W h0 h1 hoj hW.cg.row hW.cw.row
              rw [HNODE.out] at this
              exact this
            have HN : Hid _ := hNode
            clear hnode hnext hdone' hNode
            go_upto_region 23 with fail
            refine wp_region_held_drew (S := Below y3.heap.size wr) (by kernel_rfl) (Below.refl _ _).drew (fun hS => ?_)
            refine wpAnyH_take (i := 1) (v := .slice (some ⟨hg, 0, none⟩) n0 n0) rfl (by kernel_rfl) (by kernel_rfl) (by kernel_rfl) (fun _ _ _ h => h) (Or.inl ⟨by rfl, fun W hW => by go_simp⟩) hS ?_
            simp only [Act.put, List.getElem_toArray, List.getElem_cons_zero, List.getElem_cons_succ, List.setIfInBounds_toArray, List.set_cons_zero, List.set_cons_succ]
            refine wpAnyH_take (i := 2) (v := .slice (some ⟨hh, 0, none⟩) n1 n1) rfl (by kernel_rfl) (by kernel_rfl) (by kernel_rfl) (fun _ _ _ h => h) (Or.inl ⟨by rfl, fun W hW => by go_simp⟩) hS ?_
            simp only [Act.put, List.getElem_toArray, List.getElem_cons_zero, List.getElem_cons_succ, List.setIfInBounds_toArray, List.set_cons_zero, List.set_cons_succ]
            refine wpAnyH_take (i := 3) (v := .slice (some ⟨w2.heap.size, 0, none⟩) (n0 + n1) (n0 + n1)) rfl (by kernel_rfl) (by kernel_rfl) (by kernel_rfl) (fun _ _ _ h => h) (Or.inl ⟨by rfl, fun W hW => by go_simp⟩) hS ?_
            simp only [Act.put, List.getElem_toArray, List.getElem_cons_zero, List.getElem_cons_succ, List.setIfInBounds_toArray, List.set_cons_zero, List.set_cons_succ]
            refine wpAnyH_take (i := 4) (v := .int .i64 j) rfl (by kernel_rfl) (by kernel_rfl) (by kernel_rfl) (fun _ _ _ h => h) (Or.inl ⟨by rfl, fun W hW => by go_simp⟩) hS ?_
            simp only [Act.put, List.getElem_toArray, List.getElem_cons_zero, List.getElem_cons_succ, List.setIfInBounds_toArray, List.set_cons_zero, List.set_cons_succ]
            refine wpAnyH_take (i := 5) (v := .pointer (some ⟨w2.heap.size, j, none⟩)) rfl (by kernel_rfl) (by kernel_rfl) (by kernel_rfl) (fun _ _ _ h => h) (Or.inl ⟨by rfl, fun W hW => by go_simp⟩) hS ?_
            simp only [Act.put, List.getElem_toArray, List.getElem_cons_zero, List.getElem_cons_succ, List.setIfInBounds_toArray, List.set_cons_zero, List.set_cons_succ]
            refine wpAnyH_take (i := 6) (v := .int .i64 (o j : Nat)) rfl (by kernel_rfl) (by kernel_rfl) (by kernel_rfl) (fun _ _ _ h => h) (Or.inl ⟨by rfl, fun W hW => by have c := (Own.below HORD.out hW hOK).cell j hjn; go_simp⟩) hS ?_
            simp only [Act.put, List.getElem_toArray, List.getElem_cons_zero, List.getElem_cons_succ, List.setIfInBounds_toArray, List.set_cons_zero, List.set_cons_succ]
            refine wpAnyH_ready (rs := [0]) (by kernel_rfl) (by simp) (AllReadyH.cons rfl (fun K hK => ?_) AllReadyH.nil)
            · go_simp
              refine (HNEXT.out (wr.drewN 1) (St.drewN HST.out 1)).mono ?_
              rintro e x1 ⟨rfl, hst1, hx1⟩
              refine hK.out _ _ ((below_drewN (Below.refl _ _) 1).trans hx1) (fun hS1 => ?_)
              clear hK
              refine wpAnyH_ready (rs := [7]) (by kernel_rfl) (by simp) (AllReadyH.cons rfl (fun K hK => ?_) AllReadyH.nil)
              go_simp
              refine (HN.out x1 _ _ hst1).mono ?_
              rintro e x2 ⟨rfl, rfl⟩
              refine hK.out _ _ hS1 (fun hS2 => ?_)
              clear hK
              refine wpAnyH_take (i := 8) (v := .bool false) rfl (by kernel_rfl) (by kernel_rfl) (by kernel_rfl) (fun _ _ _ h => h) (Or.inl ⟨by rfl, fun W hW => by have c := neq_same ⟨r, 0, none⟩ W; go_simp⟩) hS2 ?_
              simp only [Act.put, List.getElem_toArray, List.getElem_cons_zero, List.getElem_cons_succ, List.setIfInBounds_toArray, List.set_cons_zero, List.set_cons_succ]
              refine wpAnyH_done (by kernel_rfl) ?_ _
              have HS2 : Hid _ := hS2
              clear hS1 hS2 hx1 hS
              go_wp2
              go_roundw
              case rel => exact ⟨j + 1, gi', wi', by omega, by go_num, hgi', hwi', HDN'.out, hst1, Own.below HORD.out HS2.out hOK, Below.trans HBEL.out (Below.mono HS2.out hLK)⟩
              case measure => simp [intOf]; omega
          · have hjn' : ¬ (j : Int) < n0 + n1 := by omega
            obtain rfl : j = n0 + n1 := by omega
            obtain ⟨e1, e2⟩ := none_left hOO.out HDN.out hgi hwi
            have HE : Hid _ := next_end HST.out e1 e2
            clear e1 e2
            go_wp2_with (go_at_call 18; refine Calls.mono HE.out ?_; rintro e x1 ⟨rfl, jj, rfl⟩)
            go_ret
            exact ⟨rfl, below_drewN HBEL.out _⟩
  · have HD : Hid _ := hD
    clear hD hO hown
    go_wp2_with (first
      | (go_at_call 11; refine (distinct_any _ _ _ _ _ _ w2.heap.size fg fw o _ v0 v1 h0 h1 hOO.out hOW.out).mono ?_; rintro e w4 ⟨hs, hw4⟩; obtain rfl := hs.is_false HD.out; clear hs))
    go_ret
    exact ⟨rfl, b3.trans (hw4.mono b3.size)⟩
end Go.Proofs.Qxb6614371a
