import Derived.Test.Qxb6614219aRing
import Derived.Test.Qxb6614219aPlain
import Derived.Deep.LoopGhost
namespace Go.Proofs.Qxb6614219a
open Go.RowKit
set_option linter.unusedSimpArgs false

/-- What hop reads of a table at block g: unused, bits, its own ID. -/
structure Tab (W : World) (g u b S : Nat) : Prop where
  c0 : W.cell? ⟨g, 0, none⟩ = some (.int .i64 (u : Int))
  c1 : W.cell? ⟨g, 1, none⟩ = some (.int .i64 (b : Int))
  self : W.rangeAt g 2 (idL S)
theorem rangeAt_below {W w' : World} {b o : Nat} {cs : List Value} (h : W.rangeAt b o cs) (hb : Below W.heap.size W w') : w'.rangeAt b o cs := fun j v hv => cell_later hb (h j v hv)
theorem Tab.below {W w' : World} {g u b S : Nat} (h : Tab W g u b S) (hb : Below W.heap.size W w') : Tab w' g u b S :=
  ⟨cell_later hb h.c0, cell_later hb h.c1, rangeAt_below h.self hb⟩
theorem Tab.drew {W : World} {g u b S : Nat} (h : Tab W g u b S) : Tab W.drew g u b S := ⟨h.c0, h.c1, h.self⟩
theorem Tab.unused {W : World} {g u b S : Nat} (h : Tab W g u b S) : W.rangeAt g 0 [.int .i64 (u : Int)] := fun j v hv => by
  match j, hv with
  | 0, hv => simp at hv; subst hv; exact h.c0
theorem below_store {wc W : World} {G : Nat} (h : Below wc.heap.size wc W) (hG : wc.heap.size ≤ G) (o : Nat) : ∀ (vs : List Value), Below wc.heap.size wc (W.setCells G o vs) := by
  intro vs
  induction vs generalizing W o with
  | nil => exact h
  | cons v vs ih => exact ih (h.setCell (p := ⟨G, o, none⟩) hG v) (o + 1)

theorem keep3 {W w1 : World} {G o : Nat} {cs : List Value} {a b : Addr} {x y : Value} (h : W.rangeAt G o cs ∧ W.cell? a = some x ∧ W.cell? b = some y) (hb : Below W.heap.size W w1) : w1.rangeAt G o cs ∧ w1.cell? a = some x ∧ w1.cell? b = some y :=
  ⟨rangeAt_below h.1 hb, cell_later hb h.2.1, cell_later hb h.2.2⟩
theorem fieldV (N pos width V : Nat) (w : World) (hw : width ≤ 64) (hp : pos + width ≤ 160) (hV : N / 2 ^ pos % 2 ^ width = V) :
    Calls Try.prog 30 #[.agg (idL N).toArray, .int .i64 pos, .int .i64 width] w fun e w' => e = .returned (.int .u64 (V : Int)) ∧ Below w.heap.size w w' := by
  rw [← hV]; exact field_any N pos width w hw hp
theorem hop_none {m b D : Nat} (h : D = 0 ∨ m / b < lev m b D) : hopOk m b D = false ∧ hopI m b D = 0 := by
  have e : hopOk m b D = false := by unfold hopOk; simp; omega
  exact ⟨e, by unfold hopI; rw [e]; simp⟩
theorem hop_some {m b D : Nat} (h0 : D ≠ 0) (h : lev m b D ≤ m / b) : hopOk m b D = true ∧ hopI m b D = (lev m b D - 1) * 2 ^ b + D / 2 ^ (m - lev m b D * b) := by
  have e : hopOk m b D = true := by unfold hopOk; simp [h0, h]
  exact ⟨e, by unfold hopI; rw [e]; simp⟩
theorem hop_val (l b V : Nat) (h1 : 1 ≤ l) (h2 : l ≤ 160) (hb : b ≤ 24) (hV : V < 16777216) : wrap64 (wrap64 (((l : Int) - 1) * 2 ^ b) + (V : Int)) = (((l - 1) * 2 ^ b + V : Nat) : Int) := by
  have e1 : (2 : Nat) ^ b ≤ 16777216 := by
    have : (2 : Nat) ^ b ≤ 2 ^ 24 := Nat.pow_le_pow_right (by decide) hb
    have e : (2 : Nat) ^ 24 = 16777216 := by decide
    omega
  have e2 : (l - 1) * 2 ^ b ≤ 160 * 16777216 := Nat.mul_le_mul (by omega) e1
  have e3 : ((l : Int) - 1) * 2 ^ b = (((l - 1) * 2 ^ b : Nat) : Int) := by
    rw [Int.natCast_mul, Int.natCast_pow]; congr 1; omega
  rw [e3]
  generalize (l - 1) * 2 ^ b = X at e2
  rw [IntWalk.wrap64_in (X : Int) ⟨by omega, by omega⟩, IntWalk.wrap64_in _ ⟨by omega, by omega⟩]
  omega
theorem levelsN (u b Lv : Nat) (w : World) (hu : u ≤ 159) (hb1 : 1 ≤ b) (hb2 : b ≤ 24) (h : (160 - u) / b = Lv) :
    Calls Try.prog 40 #[.agg #[.int .i64 u, .int .i64 b]] w fun e w' => e = .returned (.int .i64 (Lv : Int)) ∧ Below w.heap.size w w' := by
  have e : (160 - (u : Int)) / b = (Lv : Int) := by
    rw [← h, Int.natCast_ediv]; congr 1; omega
  rw [← e]
  exact levels_any u b w hu hb1 hb2

set_option maxRecDepth 100000 in
set_option maxHeartbeats 2000000 in
theorem hop_any (g u b S T : Nat) (w : World) (hu : u ≤ 159) (hb1 : 1 ≤ b) (hb2 : b ≤ 24) (ht : Tab w g u b S) :
    Calls Try.prog 33 #[.pointer (some ⟨g, 0, none⟩), .agg (idL T).toArray] w fun e w' =>
      e = .returned (.tuple #[.int .i64 (hopI (160 - u) b (ringN u T S) : Nat), .bool (hopOk (160 - u) b (ringN u T S))]) ∧ Below w.heap.size w w' := by
  go_enter Try.func33, Try.ntmps33
  go_upto_region 0 with fail
  go_cut [3, 4, 5] (fun p x y W => p = .pointer (some ⟨w.heap.size, 0, none⟩) ∧ x = .int .i64 0 ∧ y = .bool false ∧ Row W w.heap.size (idL T) 25 ∧ Below w.heap.size w W)
  case first =>
    go_wp2
    go_meet
    case rel => exact ⟨rfl, rfl, rfl, row_new _ (idL T) _ _ rfl, (Below.refl _ _).alloc (Nat.le_refl _) _⟩
  case rest =>
    obtain ⟨rfl, rfl, rfl, r0, hb⟩ := hcut
    have R0 : Hid _ := r0
    have HT : Hid _ := ht.below hb
    clear ht r0
    go_upto_region 1 with fail
    go_cut [6] (fun p W => ∃ G, p = .pointer (some ⟨G, 0, none⟩) ∧ Row W G (idL (ringN u T S)) 25 ∧ Tab W g u b S ∧ Below w.heap.size w W)
    case first =>
      refine wp_region_held_drew (S := Below wc.heap.size wc) (by kernel_rfl) (Below.refl _ _).drew (fun hS => ?_)
      refine wpAnyH_take (i := 0) (v := .pointer (some ⟨g, 0, none⟩)) rfl (by kernel_rfl) (by kernel_rfl) (by kernel_rfl) (fun _ _ _ h => h) (Or.inl ⟨by rfl, fun w _ => by go_simp⟩) hS ?_
      simp only [Act.put, List.getElem_toArray, List.getElem_cons_zero, List.getElem_cons_succ, List.setIfInBounds_toArray, List.set_cons_zero, List.set_cons_succ]
      refine wpAnyH_take (i := 1) (v := .pointer (some ⟨g, 0, none⟩)) rfl (by kernel_rfl) (by kernel_rfl) (by kernel_rfl) (fun _ _ _ h => h) (Or.inl ⟨by rfl, fun w _ => by go_simp⟩) hS ?_
      simp only [Act.put, List.getElem_toArray, List.getElem_cons_zero, List.getElem_cons_succ, List.setIfInBounds_toArray, List.set_cons_zero, List.set_cons_succ]
      refine wpAnyH_take (i := 2) (v := .pointer (some ⟨g, 0, none⟩)) rfl (by kernel_rfl) (by kernel_rfl) (by kernel_rfl) (fun _ _ _ h => h) (Or.inl ⟨by rfl, fun w _ => by go_simp⟩) hS ?_
      simp only [Act.put, List.getElem_toArray, List.getElem_cons_zero, List.getElem_cons_succ, List.setIfInBounds_toArray, List.set_cons_zero, List.set_cons_succ]
      refine wpAnyH_take (i := 3) (v := .pointer (some ⟨g, 0, none⟩)) rfl (by kernel_rfl) (by kernel_rfl) (by kernel_rfl) (fun _ _ _ h => h) (Or.inl ⟨by rfl, fun w _ => by go_simp⟩) hS ?_
      simp only [Act.put, List.getElem_toArray, List.getElem_cons_zero, List.getElem_cons_succ, List.setIfInBounds_toArray, List.set_cons_zero, List.set_cons_succ]
      refine wpAnyH_take (i := 4) (v := .agg #[.int .i64 (u : Int)]) rfl (by kernel_rfl) (by kernel_rfl) (by kernel_rfl) (fun _ _ _ h => h) (yieldsIf_load_mid (by rfl) 58 _ rfl g 0 rfl [.int .i64 (u : Int)] _ (fun w' hw' => (Tab.below HT.out hw').unused) Try.underlying58 rfl size58) hS ?_
      simp only [Act.put, List.getElem_toArray, List.getElem_cons_zero, List.getElem_cons_succ, List.setIfInBounds_toArray, List.set_cons_zero, List.set_cons_succ]
      refine wpAnyH_take (i := 5) (v := .agg (idL T).toArray) rfl (by kernel_rfl) (by kernel_rfl) (by kernel_rfl) (fun _ _ _ h => h) (yieldsIf_load_mid (by rfl) 25 _ rfl w.heap.size 0 rfl (idL T) _ (fun w' hw' => (Row.below R0.out hw' (Row.lt R0.out)).range) Try.underlying25 rfl (sz25 T)) hS ?_
      simp only [Act.put, List.getElem_toArray, List.getElem_cons_zero, List.getElem_cons_succ, List.setIfInBounds_toArray, List.set_cons_zero, List.set_cons_succ]
      refine wpAnyH_take (i := 6) (v := .pointer (some ⟨g, 0, none⟩)) rfl (by kernel_rfl) (by kernel_rfl) (by kernel_rfl) (fun _ _ _ h => h) (Or.inl ⟨by rfl, fun w _ => by go_simp⟩) hS ?_
      simp only [Act.put, List.getElem_toArray, List.getElem_cons_zero, List.getElem_cons_succ, List.setIfInBounds_toArray, List.set_cons_zero, List.set_cons_succ]
      refine wpAnyH_take (i := 7) (v := .pointer (some ⟨g, 0, none⟩)) rfl (by kernel_rfl) (by kernel_rfl) (by kernel_rfl) (fun _ _ _ h => h) (Or.inl ⟨by rfl, fun w _ => by go_simp⟩) hS ?_
      simp only [Act.put, List.getElem_toArray, List.getElem_cons_zero, List.getElem_cons_succ, List.setIfInBounds_toArray, List.set_cons_zero, List.set_cons_succ]
      refine wpAnyH_take (i := 8) (v := .pointer (some ⟨g, 2, none⟩)) rfl (by kernel_rfl) (by kernel_rfl) (by kernel_rfl) (fun _ _ _ h => h) (Or.inl ⟨by rfl, fun w _ => by go_simp⟩) hS ?_
      simp only [Act.put, List.getElem_toArray, List.getElem_cons_zero, List.getElem_cons_succ, List.setIfInBounds_toArray, List.set_cons_zero, List.set_cons_succ]
      refine wpAnyH_take (i := 9) (v := .pointer (some ⟨g, 2, none⟩)) rfl (by kernel_rfl) (by kernel_rfl) (by kernel_rfl) (fun _ _ _ h => h) (Or.inl ⟨by rfl, fun w _ => by go_simp⟩) hS ?_
      simp only [Act.put, List.getElem_toArray, List.getElem_cons_zero, List.getElem_cons_succ, List.setIfInBounds_toArray, List.set_cons_zero, List.set_cons_succ]
      refine wpAnyH_take (i := 10) (v := .agg (idL S).toArray) rfl (by kernel_rfl) (by kernel_rfl) (by kernel_rfl) (fun _ _ _ h => h) (yieldsIf_load_mid (by rfl) 25 _ rfl g 2 rfl (idL S) _ (fun w' hw' => (Tab.below HT.out hw').self) Try.underlying25 rfl (sz25 S)) hS ?_
      simp only [Act.put, List.getElem_toArray, List.getElem_cons_zero, List.getElem_cons_succ, List.setIfInBounds_toArray, List.set_cons_zero, List.set_cons_succ]
      refine wpAnyH_ready (rs := [11, 12]) (by kernel_rfl) (by simp) (AllReadyH.cons rfl (fun K hK => ?_) (AllReadyH.cons rfl (fun K hK => ?_) AllReadyH.nil))
      · go_simp
        refine (ringSub_any u T S _ hu).mono ?_
        rintro e w1 ⟨rfl, hw1⟩
        refine hK.out _ _ (hS.trans (hw1.mono hS.size)) (fun hS1 => ?_)
        clear hK
        refine wpAnyH_ready (rs := [12]) (by kernel_rfl) (by simp) (AllReadyH.cons rfl (fun K hK => ?_) AllReadyH.nil)
        go_simp
        have rz := row_new w1 zeros20 25 _ rfl
        obtain ⟨q5, -⟩ := row_setCells _ _ (idL (ringN u T S)) 0 zeros20 _ rz (by simp [zeros20, idL])
        rw [splice_all zeros20 (idL (ringN u T S)) (by simp [zeros20, idL])] at q5
        have hth : (w1.alloc (.cells zeros20.toArray 25)).there w1.heap.size 0 (idL (ringN u T S)).toArray.size := by simpa [idL_len] using rz.there (n := 20) (by simp [zeros20])
        refine hK.out _ _ (hS1.alloc hS1.size _) (fun hS2 => ?_)
        clear hK
        refine wpAnyH_ready (rs := [13]) (by kernel_rfl) (by simp) (AllReadyH.cons rfl (fun K hK => ?_) AllReadyH.nil)
        rw [if_pos (by rfl)]
        refine wp_store_mid 25 _ _ rfl w1.heap.size 0 (idL (ringN u T S)).toArray rfl rfl hth (sz25' _) (id20 _).all ?_
        refine hK.out _ _ (below_store hS2 hS1.size 0 _) (fun hS3 => ?_)
        clear hK
        refine wpAnyH_done (by kernel_rfl) ?_ _
        simp only [Act.put, List.getElem_toArray, List.getElem_cons_zero, List.getElem_cons_succ, List.toList_toArray]
        go_wp2_with fail
        go_meet
        exact ⟨_, rfl, q5, Tab.below HT.out hS3, hb.trans (hS3.mono hb.size)⟩
      · go_simp
        have rz := row_new wc zeros20 25 _ rfl
        have hS0 : Below wc.heap.size wc (wc.alloc (.cells zeros20.toArray 25)).drew := ((Below.refl _ _).alloc (Nat.le_refl _) _).drew
        refine hK.out _ _ hS0 (fun hS1 => ?_)
        clear hK
        refine wpAnyH_ready (rs := [11]) (by kernel_rfl) (by simp) (AllReadyH.cons rfl (fun K hK => ?_) AllReadyH.nil)
        go_simp
        refine (ringSub_any u T S _ hu).mono ?_
        rintro e w1 ⟨rfl, hw1⟩
        have rz1 := Row.below rz.drew hw1 rz.lt
        obtain ⟨q5, -⟩ := row_setCells _ _ (idL (ringN u T S)) 0 zeros20 _ rz1 (by simp [zeros20, idL])
        rw [splice_all zeros20 (idL (ringN u T S)) (by simp [zeros20, idL])] at q5
        have hth : w1.there wc.heap.size 0 (idL (ringN u T S)).toArray.size := by simpa [idL_len] using rz1.there (n := 20) (by simp [zeros20])
        refine hK.out _ _ (hS0.trans (hw1.mono hS0.size)) (fun hS2 => ?_)
        clear hK
        refine wpAnyH_ready (rs := [13]) (by kernel_rfl) (by simp) (AllReadyH.cons rfl (fun K hK => ?_) AllReadyH.nil)
        rw [if_pos (by rfl)]
        refine wp_store_mid 25 _ _ rfl wc.heap.size 0 (idL (ringN u T S)).toArray rfl rfl hth (sz25' _) (id20 _).all ?_
        refine hK.out _ _ (below_store hS2 (Nat.le_refl _) 0 _) (fun hS3 => ?_)
        clear hK
        refine wpAnyH_done (by kernel_rfl) ?_ _
        simp only [Act.put, List.getElem_toArray, List.getElem_cons_zero, List.getElem_cons_succ, List.toList_toArray]
        go_wp2_with fail
        go_meet
        exact ⟨_, rfl, q5, Tab.below HT.out hS3, hb.trans (hS3.mono hb.size)⟩
    case rest =>
      clear hb R0 HT
      obtain ⟨G, rfl, rD, hT, hb⟩ := hcut
      have hD : ringN u T S < 2 ^ (160 - u) := Nat.mod_lt _ (Nat.two_pow_pos _)
      obtain ⟨D, hDe⟩ : ∃ D, D = ringN u T S := ⟨_, rfl⟩
      rw [← hDe] at rD hD
      have HDe : Hid _ := hDe
      clear hDe
      obtain ⟨m, hm⟩ : ∃ m, m = 160 - u := ⟨_, rfl⟩
      rw [← hm] at hD
      have HD : Hid _ := hD
      have hm1 : m ≤ 160 := by omega
      obtain ⟨Lv, hLv⟩ : ∃ Lv, m / b = Lv := ⟨_, rfl⟩
      have hLv1 : Lv ≤ 160 := by rw [← hLv]; exact Nat.le_trans (Nat.div_le_self _ _) hm1
      have hLvb : Lv * b ≤ m := by rw [← hLv]; exact Nat.div_mul_le_self _ _
      have HL : Hid _ := hLv
      have HM : Hid _ := hm
      have HLU : Hid ((160 - u) / b = Lv) := by rw [← hm]; exact hLv
      clear hD hm hLv
      go_wp2
      go_loopw [7] (fun t wr => ∃ l : Nat, 1 ≤ l ∧ l ≤ Lv + 1 ∧ t = .int .i64 l ∧ (D = 0 ∨ l ≤ lev m b D) ∧ Tab wr g u b S ∧ Row wr G (idL D) 25 ∧ Below w.heap.size w wr) (fun t _ => Lv + 1 - (intOf t).toNat)
      case atStart => exact ⟨1, by omega, by omega, rfl, .inr (lev_pos _ _ _), hT, rD, hb⟩
      case round =>
        clear hb hT rD
        obtain ⟨l, hl1, hl2, rfl, hlev, hT, rD, hb⟩ := hrel
        have c0 := hT.c0
        have c1 := hT.c1
        by_cases hle : l ≤ Lv
        · obtain ⟨lb, hlb⟩ : ∃ lb, lb = l * b := ⟨_, rfl⟩
          have hlbm : lb ≤ m := by rw [hlb]; exact Nat.le_trans (Nat.mul_le_mul_right b hle) hLvb
          have hu160 := HM.out
          obtain ⟨pos, hpos⟩ : ∃ pos, pos = m - lb := ⟨_, rfl⟩
          have hmul0 : (l : Int) * (b : Int) = (lb : Int) := by rw [hlb]; simp
          have hmul : IntKind.i64.wrap (lb : Int) = (lb : Int) := wrap_i64 _ (by omega) (by omega)
          have hsub0 : 160 - (u : Int) - (lb : Int) = (pos : Int) := by omega
          have hsub : IntKind.i64.wrap (pos : Int) = (pos : Int) := wrap_i64 _ (by omega) (by omega)
          have hwu : IntKind.i64.wrap (160 - (u : Int)) = 160 - (u : Int) := wrap_i64 _ (by omega) (by omega)
          have hpw : pos + b ≤ 160 := by
            have : 1 * b ≤ l * b := Nat.mul_le_mul_right b hl1
            omega
          obtain ⟨V, hV⟩ : ∃ V, D / 2 ^ pos % 2 ^ b = V := ⟨_, rfl⟩
          have HV : Hid _ := hV
          have HLB : Hid _ := hlb
          have HP : Hid _ := hpos
          clear hV hlb hpos hu160
          have hu' := Try.underlying25
          have hszD := sz25 D
          have hlD := idL_len D
          have hoD := (id20 D).2
          go_wp2_with (first | (go_at_call 40; refine (levelsN u b Lv _ hu hb1 hb2 HLU.out).mono ?_; rintro e w1 ⟨rfl, hw1⟩))
          have hT1 := hT.below hw1
          have rD1 := rD.below hw1 rD.lt
          have hbw1 := hb.trans (hw1.mono hb.size)
          have c0' := hT1.c0
          have c1' := hT1.c1
          have HS : Hid _ := And.intro rD1.range (And.intro c0' c1')
          clear c0 c1 hT rD hw1 hb
          by_cases hat : D ≠ 0 ∧ l = lev m b D
          · obtain ⟨hD0, hll⟩ := hat
            have HLL : Hid _ := hll
            clear hll
            have hVd : V = D / 2 ^ (m - lev m b D * b) := by
              rw [← HV.out, HP.out, HLB.out, HLL.out]
              exact digit_at_mod hb1 hD0 HD.out (by rw [HL.out, ← HLL.out]; exact hle)
            have hVp : 0 < V ∧ V < 2 ^ b := by rw [hVd]; exact digit_at hb1 hD0 HD.out (by rw [HL.out, ← HLL.out]; exact hle)
            have hVlt : (V : Int) < 16777216 := by
              have : (2 : Nat) ^ b ≤ 2 ^ 24 := Nat.pow_le_pow_right (by decide) hb2
              have e : (2 : Nat) ^ 24 = 16777216 := by decide
              omega
            have hVne : ((V : Int) != 0) = true := by simp; omega
            have HVd : Hid _ := hVd
            clear hVd hVp
            go_region_held3 (fun w' => w'.rangeAt G 0 (idL D) ∧ w'.cell? ⟨g, 0, none⟩ = some (.int .i64 (u : Int)) ∧ w'.cell? ⟨g, 1, none⟩ = some (.int .i64 (b : Int)))
              (first | assumption | exact keep3 (by assumption) (by assumption) | exact HS.out)
              (first
                | (go_at_call 41; refine (bits_any u _ hu).mono ?_; rintro e w2 ⟨rfl, hw2⟩)
                | (go_at_call 30; refine (fieldV D pos b V _ (by omega) hpw HV.out).mono ?_; rintro e w3 ⟨rfl, hw3⟩))
            have c1'' := ((hT1.drew.below hw2).below hw3).c1
            have hb2' := hbw1.drew.trans (hw2.mono hbw1.size)
            have hb3' := hb2'.trans (hw3.mono hb2'.size)
            have HB3 : Hid _ := hb3'
            clear hb2' hT1 rD1 hbw1 hw2 hw3 hb3'
            go_wp2
            go_ret2
            refine ⟨?_, HB3.out⟩
            obtain ⟨e1, e2⟩ := hop_some (m := m) (b := b) (D := D) hD0 (by rw [HL.out, ← HLL.out]; exact hle)
            rw [← HDe.out, ← HM.out, e1, e2, ← HVd.out, ← HLL.out]
            show Ending.returned (.tuple #[.int .i64 (wrap64 (wrap64 (((l : Int) - 1) * 2 ^ b) + (V : Int))), .bool true]) = _
            rw [hop_val l b V hl1 (by omega) hb2 (by omega)]
          · have hV0 : V = 0 := by rw [← HV.out, HP.out, HLB.out]; exact digit_below hb1 HD.out (by omega)
            subst hV0
            go_region_held3 (fun w' => w'.rangeAt G 0 (idL D) ∧ w'.cell? ⟨g, 0, none⟩ = some (.int .i64 (u : Int)) ∧ w'.cell? ⟨g, 1, none⟩ = some (.int .i64 (b : Int)))
              (first | assumption | exact keep3 (by assumption) (by assumption) | exact HS.out)
              (first
                | (go_at_call 41; refine (bits_any u _ hu).mono ?_; rintro e w2 ⟨rfl, hw2⟩)
                | (go_at_call 30; refine (fieldV D pos b 0 _ (by omega) hpw HV.out).mono ?_; rintro e w3 ⟨rfl, hw3⟩))
            have hT3 := (hT1.drew.below hw2).below hw3
            have rD2 := Row.below rD1.drew hw2 rD1.lt
            have rD3 := rD2.below hw3 rD2.lt
            have hb2' := hbw1.drew.trans (hw2.mono hbw1.size)
            have hb3' := hb2'.trans (hw3.mono hb2'.size)
            have HT3 : Hid _ := hT3
            clear rD2 hb2' hT1 rD1 hbw1 hw2 hw3 hT3
            go_wp2
            go_roundw
            case rel => exact ⟨l + 1, by omega, by omega, by go_num, by omega, HT3.out, rD3, hb3'⟩
            case measure => simp [intOf]; omega
        · go_wp2_with (first | (go_at_call 40; refine (levelsN u b Lv _ hu hb1 hb2 HLU.out).mono ?_; rintro e w1 ⟨rfl, hw1⟩))
          go_ret2
          refine ⟨?_, hb.trans (hw1.mono hb.size)⟩
          obtain ⟨e1, e2⟩ := hop_none (m := m) (b := b) (D := D) (by rw [HL.out]; omega)
          rw [← HDe.out, ← HM.out, e1, e2]; rfl
end Go.Proofs.Qxb6614219a
