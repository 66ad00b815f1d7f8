import Derived.Test.Qxb6614371aKeys
namespace Go.Proofs.Qxb6614371a
open Go.RowKit
set_option linter.unusedVariables false
set_option linter.unusedSimpArgs false

/-- An own row of N cells at block h that reads as F and may be written. -/
structure Own (w : World) (h N : Nat) (F : Nat → Value) : Prop where
  cell : ∀ i, i < N → w.cell? ⟨h, i, none⟩ = some (F i)
  free : ∀ i, i < N → w.frozen? ⟨h, i, none⟩ = false

def upd (F : Nat → Value) (i : Nat) (v : Value) (k : Nat) : Value := if k = i then v else F k

theorem Own.set {w : World} {h N : Nat} {F : Nat → Value} (hf : Own w h N F) (i : Nat) (v : Value) : Own (w.setCell ⟨h, i, none⟩ v) h N (upd F i v) := by
  refine ⟨?_, ?_⟩
  · intro k hk
    unfold upd
    by_cases e : k = i
    · subst e
      rw [if_pos rfl]
      exact World.cell?_setCell_same _ _ _ (hf.cell k hk)
    · rw [if_neg e, World.cell?_setCell_other _ _ _ _ (by intro h; injection h; omega)]
      exact hf.cell k hk
  · intro k hk
    rw [World.frozen?_setCell]
    exact hf.free k hk
theorem Own.other {w : World} {h N : Nat} {F : Nat → Value} (hf : Own w h N F) {a : Addr} (ha : a.block ≠ h) (v : Value) : Own (w.setCell a v) h N F := by
  refine ⟨?_, ?_⟩
  · intro k hk
    rw [World.cell?_setCell_other _ _ _ _ (by rintro rfl; exact ha rfl)]
    exact hf.cell k hk
  · intro k hk
    rw [World.frozen?_setCell]
    exact hf.free k hk
theorem Own.congr {w : World} {h N : Nat} {F G : Nat → Value} (hf : Own w h N F) (e : ∀ i, i < N → F i = G i) : Own w h N G :=
  ⟨fun i hi => by rw [← e i hi]; exact hf.cell i hi, hf.free⟩
theorem Own.below {B : Nat} {w w' : World} {h N : Nat} {F : Nat → Value} (hf : Own w h N F) (hb : Below B w w') (hB : h < B) : Own w' h N F :=
  ⟨fun i hi => by rw [hb.cell hB]; exact hf.cell i hi, fun i hi => by rw [hb.frozen hB]; exact hf.free i hi⟩
theorem Own.lt {w : World} {h N : Nat} {F : Nat → Value} (hf : Own w h N F) (hN : 0 < N) : h < w.heap.size := World.block_lt_of_cell? _ _ (hf.cell 0 hN)
theorem Own.drewN {w : World} {h N : Nat} {F : Nat → Value} (hf : Own w h N F) (j : Nat) : Own (w.drewN j) h N F := ⟨hf.cell, hf.free⟩

theorem made_block {w : World} {base e g n : Nat} {xs : List Value} (h : w.ownsRow base e 1 (.slice (some ⟨g, 0, none⟩) n n) n xs) :
    w.heap[g]? = some (.cells xs.toArray e (0, 0)) ∧ xs.length = n := by
  obtain ⟨hl, h | ⟨g', cap, cur, hv, _, hh, _, _, hs, ht⟩⟩ := h
  · simp at h
  · simp at hv
    obtain ⟨rfl, rfl⟩ := hv
    have : cur.toList = xs := by rw [← ht, List.take_of_length_le (by simp; omega)]
    subst this
    exact ⟨by simpa using hh, by simpa using hl⟩

theorem own_made {w : World} {h N e : Nat} {z : Value} (hh : w.heap[h]? = some (.cells (List.replicate N z).toArray e (0, 0))) : Own w h N (fun _ => z) := by
  refine ⟨?_, ?_⟩
  · intro i hi
    simp [World.cell?, hh, hi]
  · intro i _
    simp [World.frozen?, hh]

/-! ### The plain law of the insertion sort -/
/-- The first i places of 'o' hold the positions 0 .. i-1, sorted by key. -/
structure Ord (key : Nat → Int) (i : Nat) (o : Nat → Nat) : Prop where
  lt : ∀ k, k < i → o k < i
  onto : ∀ p, p < i → ∃ k, k < i ∧ o k = p
  sorted : ∀ k, k + 1 < i → key (o k) ≤ key (o (k + 1))

/-- i put in at place j. -/
def ins (o : Nat → Nat) (i j : Nat) (k : Nat) : Nat := if k < j then o k else if k = j then i else o (k - 1)

theorem Ord.ins {key : Nat → Int} {i : Nat} {o : Nat → Nat} (h : Ord key i o) (j : Nat) (hj : j ≤ i) (hhi : ∀ k, j ≤ k → k < i → key i < key (o k)) (hlo : j = 0 ∨ key (o (j - 1)) ≤ key i) : Ord key (i + 1) (ins o i j) := by
  refine ⟨?_, ?_, ?_⟩
  · intro k hk
    unfold Qxb6614371a.ins
    by_cases h1 : k < j
    · rw [if_pos h1]; have := h.lt k (by omega); omega
    by_cases h2 : k = j
    · rw [if_neg h1, if_pos h2]; omega
    · rw [if_neg h1, if_neg h2]; have := h.lt (k - 1) (by omega); omega
  · intro p hp
    by_cases e : p = i
    · exact ⟨j, by omega, by unfold Qxb6614371a.ins; rw [if_neg (by omega), if_pos rfl]; omega⟩
    · obtain ⟨k, hk, hk2⟩ := h.onto p (by omega)
      by_cases h1 : k < j
      · exact ⟨k, by omega, by unfold Qxb6614371a.ins; rw [if_pos h1]; exact hk2⟩
      · exact ⟨k + 1, by omega, by unfold Qxb6614371a.ins; rw [if_neg (by omega), if_neg (by omega)]; exact hk2⟩
  · intro k hk
    unfold Qxb6614371a.ins
    by_cases h1 : k + 1 < j
    · rw [if_pos (show k < j by omega), if_pos h1]; exact h.sorted k (by omega)
    by_cases h2 : k + 1 = j
    · rw [if_pos (show k < j by omega), if_neg h1, if_pos h2]
      rcases hlo with h0 | h0
      · omega
      · rw [← h2] at h0; exact h0
    by_cases h3 : k = j
    · subst h3
      rw [if_neg (by omega), if_pos rfl, if_neg h1, if_neg h2]
      have := hhi k (by omega) (by omega)
      rw [show k + 1 - 1 = k by omega]; omega
    · rw [if_neg (by omega), if_neg h3, if_neg h1, if_neg h2]
      have := h.sorted (k - 1) (by omega)
      rw [show k - 1 + 1 = k by omega] at this
      rw [show k + 1 - 1 = k by omega]; exact this

theorem info3 : (Try.prog.info? 3).map (fun i => (i.zero, i.size, i.bytes)) = some (some (.int .i64 0), 1, 8) := by kernel_rfl
theorem made_rep (z : Value) (n : Nat) : (madeCells #[z] (n * 1)).toList = List.replicate n z := by
  apply List.ext_getElem <;> simp [madeCells, Nat.mod_one]

/-- What zzOrder returns: a new row of the positions, sorted. -/
structure Sorted (w : World) (key : Nat → Int) (n h : Nat) (w' : World) : Prop where
  row : ∃ o, Ord key n o ∧ Own w' h n (fun k => .int .i64 (o k : Nat))
  bel : Below w.heap.size w w'
  lt : h < w'.heap.size

set_option maxRecDepth 100000 in
set_option maxHeartbeats 1000000 in
/-- zzOrder. -/
theorem order_any (a0 a1 : Option Addr) (n0 c0 n1 c1 : Nat) (fg fw : Nat → Int) (w : World) (h0 : Nms w a0 n0 fg) (h1 : Nms w a1 n1 fw) (hn0 : n0 ≤ 4096) (hn1 : n1 ≤ 4096) :
    Calls Try.prog 10 #[.slice a0 n0 c0, .slice a1 n1 c1] w fun e w' => e = .returned (.slice (some ⟨w.heap.size, 0, none⟩) (n0 + n1) (n0 + n1)) ∧ Sorted w (keyF n0 fg fw) (n0 + n1) w.heap.size w' := by
  obtain ⟨i0, hi, hz0, hz1, hz2⟩ := info_parts info3
  obtain ⟨n, hn⟩ : ∃ n, n0 + n1 = n := ⟨_, rfl⟩
  have hn' : (n0 : Int) + n1 = n := by omega
  have hn8 : n ≤ 8192 := by omega
  have HN : Hid _ := hn
  rw [hn]
  clear hn
  obtain ⟨key, hkey⟩ : ∃ key, keyF n0 fg fw = key := ⟨_, rfl⟩
  rw [hkey]
  have hk : ∀ (i : Nat) (W : World), i < n → Below w.heap.size w W → Calls Try.prog 24 #[.slice a0 n0 c0, .slice a1 n1 c1, .int .i64 i] W fun e w' => e = .returned (.int .u32 (key i)) ∧ W = w' := by
    intro i W hi hb
    exact key_any a0 a1 n0 c0 n1 c1 i fg fw _ W (h0.below hb) (h1.below hb) hn0 hn1 (by have := HN.out; omega) (by rw [hkey])
  clear hkey h0 h1
  go_enter Try.func10, Try.ntmps10
  go_wp2_with (first | (at_make; refine wpList_make_full _ rfl _ _ 27 rfl w.heap.size 3 i0 (.int .i64 0) 1 Try.underlying27 hi hz0 hz1 _ _ _ _ n rfl rfl (by omega) (by omega) (by rw [hz2]; omega) (by unfold maxLen; omega) (Nat.le_refl _) ?_; intro w3 hown hgrow))
  obtain ⟨hg, hyl⟩ := made_block hown
  rw [show (Value.int IntKind.i64 0).cells = #[Value.int IntKind.i64 0] from rfl, made_rep] at hg
  have F0 := own_made hg
  have hlt3 : w.heap.size < w3.heap.size := by
    rcases Nat.lt_or_ge w.heap.size w3.heap.size with h | h
    · exact h
    · rw [Array.getElem?_eq_none h] at hg; cases hg
  have hB3 : Below w.heap.size w w3 := (Below.refl _ _).grown hgrow (Nat.le_refl _) (by simp)
  clear hown hgrow hg hyl hi hz0 hz1 hz2 hn'
  go_loopw [7] (fun t wr => ∃ (i : Nat) (o : Nat → Nat) (F : Nat → Value), i ≤ n ∧ t = .int .i64 i ∧ Own wr w.heap.size n F ∧ (∀ k, k < i → F k = .int .i64 (o k : Nat)) ∧ Ord key i o ∧ Below w.heap.size w wr ∧ w.heap.size < wr.heap.size) (fun t _ => n - (intOf t).toNat)
  case atStart => exact ⟨0, id, _, by omega, rfl, F0, by intro k hk; omega, ⟨by intro k hk; omega, by intro k hk; omega, by intro k hk; omega⟩, hB3, hlt3⟩
  case round =>
    clear F0 hB3 hlt3
    obtain ⟨i, o, F, hin, rfl, hF, hFo, hO, hBr, hlt⟩ := hrel
    by_cases hil : i < n
    · have hil' : (i : Int) < n := by omega
      have HO : Hid _ := hO
      have HFo : Hid _ := hFo
      clear hO hFo
      go_wp2
      go_loopw [8] (fun t wr => ∃ (j : Nat) (F : Nat → Value), j ≤ i ∧ t = .int .i64 j ∧ Own wr w.heap.size n F ∧ (∀ k, k < j → F k = .int .i64 (o k : Nat)) ∧ (∀ k, j < k → k ≤ i → F k = .int .i64 (o (k - 1) : Nat)) ∧
        (∀ k, j ≤ k → k < i → key i < key (o k)) ∧ Below w.heap.size w wr ∧ w.heap.size < wr.heap.size) (fun t _ => (intOf t).toNat)
      case atStart => exact ⟨i, F, by omega, rfl, hF, HFo.out, by intro k h1 h2; omega, by intro k h1 h2; omega, hBr, hlt⟩
      case round =>
        clear hF HFo hBr hlt
        obtain ⟨j, G, hji, rfl, hG, hlo, hhi, hgt, hBs, hlt⟩ := hrel
        have Hlo : Hid _ := hlo
        have Hhi : Hid _ := hhi
        have Hgt : Hid _ := hgt
        clear hlo hhi hgt
        have cj := hG.cell j (by omega)
        have fj := hG.free j (by omega)
        have hjn : (j : Int) < n := by omega
        by_cases hj0 : j = 0
        · subst hj0
          go_wp2
          go_roundw
          case rel =>
            refine ⟨i + 1, ins o i 0, _, by omega, by go_num, hG.set 0 _, ?_, HO.out.ins 0 (by omega) Hgt.out (Or.inl rfl), hBs.setCell (Nat.le_refl _) _, by simpa using hlt⟩
            intro k hk
            unfold upd ins
            by_cases e : k = 0
            · rw [if_pos e, if_neg (by omega), if_pos e]
            · rw [if_neg e, if_neg (by omega), if_neg e]; exact Hhi.out k (by omega) (by omega)
          case measure => simp [intOf]; omega
        · obtain ⟨j, rfl⟩ : ∃ j', j = j' + 1 := ⟨j - 1, by omega⟩
          have cj1 := hG.cell j (by omega)
          rw [Hlo.out j (by omega)] at cj1
          have hoj := HO.out.lt j (by omega)
          have hj1 : ((j : Int) + 1) - 1 = j := by omega
          have hjn1 : (j : Int) < n := by omega
          by_cases hkk : key i < key (o j)
          · go_wp2_with (go_at_call 24; refine (hk _ _ (by omega) hBs).mono ?_; rintro e w' ⟨rfl, rfl⟩)
            go_roundw
            case rel =>
              refine ⟨j, _, by omega, by go_num, hG.set (j + 1) _, ?_, ?_, ?_, hBs.setCell (Nat.le_refl _) _, by simpa using hlt⟩
              · intro k hk
                unfold upd
                rw [if_neg (by omega)]; exact Hlo.out k (by omega)
              · intro k h1 h2
                unfold upd
                by_cases e : k = j + 1
                · rw [if_pos e, e]; rfl
                · rw [if_neg e]; exact Hhi.out k (by omega) h2
              · intro k h1 h2
                by_cases e : k = j
                · subst e; exact hkk
                · exact Hgt.out k (by omega) h2
            case measure => simp [intOf]
          · go_wp2_with (go_at_call 24; refine (hk _ _ (by omega) hBs).mono ?_; rintro e w' ⟨rfl, rfl⟩)
            go_roundw
            case rel =>
              refine ⟨i + 1, ins o i (j + 1), _, by omega, by go_num, hG.set (j + 1) _, ?_, HO.out.ins (j + 1) (by omega) Hgt.out (Or.inr (by simpa using hkk)), hBs.setCell (Nat.le_refl _) _, by simpa using hlt⟩
              intro k hk
              unfold upd ins
              by_cases e : k = j + 1
              · rw [if_pos e, if_neg (by omega), if_pos e]
              · rw [if_neg e]
                by_cases e2 : k < j + 1
                · rw [if_pos e2]; exact Hlo.out k e2
                · rw [if_neg e2, if_neg e]; exact Hhi.out k (by omega) (by omega)
            case measure => simp [intOf]; omega
    · have hil' : ¬ (i : Int) < n := by omega
      obtain rfl : i = n := by omega
      go_wp2
      go_ret
      exact ⟨rfl, ⟨o, hO, hF.congr hFo⟩, hBr, hlt⟩

set_option maxRecDepth 100000 in
set_option maxHeartbeats 1000000 in
/-- zzDistinct. -/
theorem distinct_any (a0 a1 : Option Addr) (n0 c0 n1 c1 h : Nat) (fg fw : Nat → Int) (o : Nat → Nat) (w : World) (h0 : Nms w a0 n0 fg) (h1 : Nms w a1 n1 fw) (hn0 : n0 ≤ 4096) (hn1 : n1 ≤ 4096)
    (hO : Ord (keyF n0 fg fw) (n0 + n1) o) (hw : Own w h (n0 + n1) (fun k => .int .i64 (o k : Nat))) :
    Calls Try.prog 11 #[.slice a0 n0 c0, .slice a1 n1 c1, .slice (some ⟨h, 0, none⟩) (n0 + n1) (n0 + n1)] w fun e w' => SaysB e (∀ k, k + 1 < n0 + n1 → keyF n0 fg fw (o k) ≠ keyF n0 fg fw (o (k + 1))) ∧ Below w.heap.size w w' := by
  obtain ⟨n, hn⟩ : ∃ n, n0 + n1 = n := ⟨_, rfl⟩
  have hn8 : n ≤ 8192 := by omega
  have HN : Hid _ := hn
  rw [hn] at hO hw ⊢
  clear hn
  obtain ⟨key, hkey⟩ : ∃ key, keyF n0 fg fw = key := ⟨_, rfl⟩
  rw [hkey] at hO ⊢
  have hk : ∀ (i m : Nat) (W : World), i < n → Below w.heap.size w W → Calls Try.prog 24 #[.slice a0 n0 c0, .slice a1 n1 c1, .int .i64 i] (W.drewN m) fun e w' => e = .returned (.int .u32 (key i)) ∧ w' = W.drewN m := by
    intro i m W hi hb
    exact (key_any a0 a1 n0 c0 n1 c1 i fg fw _ (W.drewN m) (h0.below (below_drewN hb m)) (h1.below (below_drewN hb m)) hn0 hn1 (by have := HN.out; omega) (by rw [hkey])).mono fun _ _ h => ⟨h.1, h.2.symm⟩
  have hol := hO.lt
  clear hkey h0 h1 hO
  go_enter Try.func11, Try.ntmps11
  go_wp2
  go_loopw [7] (fun t wr => ∃ k : Nat, (k + 1 ≤ n ∨ k = 0) ∧ t = .int .i64 (k + 1) ∧ Below w.heap.size w wr ∧ ∀ i, i < k → i + 1 < n → key (o i) ≠ key (o (i + 1))) (fun t _ => n - (intOf t).toNat)
  case atStart => exact ⟨0, by omega, rfl, Below.refl _ _, by intro i hi; omega⟩
  case round =>
    obtain ⟨k, hkn, rfl, hBr, hall⟩ := hrel
    have Hall : Hid _ := hall
    clear hall
    by_cases hlt : k + 1 < n
    · have hwr := hw.below hBr (hw.lt (by omega))
      have g1 := hwr.cell k (by omega)
      have g2 := hwr.cell (k + 1) hlt
      have l1 := hol k (by omega)
      have l2 := hol (k + 1) hlt
      have hlt' : (k : Int) + 1 < n := by omega
      have hlt2 : (k : Int) < n := by omega
      by_cases hge : key (o k) = key (o (k + 1))
      · go_wp2
        go_quiet (first | (go_at_call 24; refine Calls.quiet_of_same (hk _ _ _ (by omega) hBr)))
        go_wp2
        go_ret
        exact ⟨SaysB.no (fun h => h k hlt hge), below_drewN hBr _⟩
      · go_wp2
        go_quiet (first | (go_at_call 24; refine Calls.quiet_of_same (hk _ _ _ (by omega) hBr)))
        go_wp2
        go_roundw
        case rel =>
          refine ⟨k + 1, by omega, by go_num, below_drewN hBr _, ?_⟩
          intro i hi hi2
          by_cases e : i = k
          · subst e; exact hge
          · exact Hall.out i (by omega) hi2
        case measure => simp [intOf]; omega
    · have hlt' : ¬ (k : Int) + 1 < n := by omega
      go_wp2
      go_ret
      exact ⟨SaysB.yes (fun i hi => Hall.out i (by omega) hi), hBr⟩
end Go.Proofs.Qxb6614371a
