import Derived.Test.Qxb6614371aChain
import Derived.LaidEql
namespace Go.Proofs.Qxb6614371a
open Go.RowKit
set_option linter.unusedVariables false
set_option linter.unusedSimpArgs false

/-- The walk's record at block K: the next lock of each queue. -/
structure Wk (w : World) (K : Nat) (g x : Option Addr) : Prop where
  gr : w.cell? ⟨K, 0, none⟩ = some (.pointer g)
  wa : w.cell? ⟨K, 1, none⟩ = some (.pointer x)
  fg : w.frozen? ⟨K, 0, none⟩ = false
  fw : w.frozen? ⟨K, 1, none⟩ = false

theorem peek_nil (K : Nat) (x : Option Addr) (w : World) (hk : Wk w K none x) :
    Calls Try.prog 28 #[.pointer (some ⟨K, 0, none⟩)] w fun e w' => e = .returned (.pointer x) ∧ ∃ j, w' = w.drewN j := by
  have c0 := hk.gr
  have c1 := hk.wa
  go_enter Try.func28, Try.ntmps28
  go_wp2
  go_quiet (fail)
  go_wp2
  go_ret
  exact ⟨rfl, _, rfl⟩
theorem peek_g (K b : Nat) (w : World) (hk : Wk w K (some ⟨b, 0, none⟩) none) :
    Calls Try.prog 28 #[.pointer (some ⟨K, 0, none⟩)] w fun e w' => e = .returned (.pointer (some ⟨b, 0, none⟩)) ∧ ∃ j, w' = w.drewN j := by
  have c0 := hk.gr
  have c1 := hk.wa
  go_enter Try.func28, Try.ntmps28
  go_wp2
  go_quiet (fail)
  go_wp2
  go_ret
  exact ⟨rfl, _, rfl⟩
theorem peek_gw (K b d : Nat) (s t : Int) (u v : Value) (w : World) (hk : Wk w K (some ⟨b, 0, none⟩) (some ⟨d, 0, none⟩)) (hb : Lk w b s u) (hd : Lk w d t v) (h : ¬ t < s) :
    Calls Try.prog 28 #[.pointer (some ⟨K, 0, none⟩)] w fun e w' => e = .returned (.pointer (some ⟨b, 0, none⟩)) ∧ ∃ j, w' = w.drewN j := by
  have c0 := hk.gr
  have c1 := hk.wa
  have s0 := hb.seq
  have s1 := hd.seq
  go_enter Try.func28, Try.ntmps28
  go_wp2
  go_quiet (fail)
  go_wp2
  go_ret
  exact ⟨rfl, _, rfl⟩
theorem peek_wg (K b d : Nat) (s t : Int) (u v : Value) (w : World) (hk : Wk w K (some ⟨b, 0, none⟩) (some ⟨d, 0, none⟩)) (hb : Lk w b s u) (hd : Lk w d t v) (h : t < s) :
    Calls Try.prog 28 #[.pointer (some ⟨K, 0, none⟩)] w fun e w' => e = .returned (.pointer (some ⟨d, 0, none⟩)) ∧ ∃ j, w' = w.drewN j := by
  have c0 := hk.gr
  have c1 := hk.wa
  have s0 := hb.seq
  have s1 := hd.seq
  go_enter Try.func28, Try.ntmps28
  go_wp2
  go_quiet (fail)
  go_wp2
  go_ret
  exact ⟨rfl, _, rfl⟩

theorem info78 : ∃ j, Try.prog.info? 78 = some j ∧ j.size ≠ 0 := by
  have h : (Try.prog.info? 78).map (·.size) = some 12 := by kernel_rfl
  obtain ⟨j, hj, hs⟩ := Option.map_eq_some_iff.1 h
  exact ⟨j, hj, by omega⟩
theorem equalIn_same (d : Nat) (a : Addr) (w : World) : (Op.equalIn (d + 1) 32 (.pointer (some a)) (.pointer (some a))).run Try.prog w = .ok true w := by
  obtain ⟨j, hj, hs⟩ := info78
  simp [Op.equalIn, run_underlying Try.underlying32, typeInfo, sizeOf, run_sameAddr_same, hj]
theorem equal_same (a : Addr) (w : World) : (Op.equal 32 (.pointer (some a)) (.pointer (some a))).run Try.prog w = .ok true w := equalIn_same 9999 a w
theorem eql_same (a : Addr) (w : World) : (binOp .eql 32 (.pointer (some a)) (.pointer (some a))).run Try.prog w = .ok (.bool true) w := by
  simp only [binOp]
  simp [equal_same a w]
theorem neq_same (a : Addr) (w : World) : (binOp .neq 32 (.pointer (some a)) (.pointer (some a))).run Try.prog w = .ok (.bool false) w := by
  simp only [binOp]
  simp [equal_same a w]
theorem equalIn_other (e : Nat) {b d : Nat} (hne : d ≠ b) (w : World) {s t : Int} {u v : Value} (hb : Lk w b s u) (hd : Lk w d t v) : (Op.equalIn (e + 1) 32 (.pointer (some ⟨d, 0, none⟩)) (.pointer (some ⟨b, 0, none⟩))).run Try.prog w = .ok false w := by
  obtain ⟨j, hj, hs⟩ := info78
  obtain ⟨cb, hcb⟩ := hb.blk
  obtain ⟨cd, hcd⟩ := hd.blk
  have hA : (⟨d, 0, none⟩ : Addr) ≠ ⟨b, 0, none⟩ := by simp [hne]
  simp [Op.equalIn, run_underlying Try.underlying32, typeInfo, sizeOf, hj, hs, run_sameAddr_other w hA hcd hcb]
theorem equal_other {b d : Nat} (hne : d ≠ b) (w : World) {s t : Int} {u v : Value} (hb : Lk w b s u) (hd : Lk w d t v) : (Op.equal 32 (.pointer (some ⟨d, 0, none⟩)) (.pointer (some ⟨b, 0, none⟩))).run Try.prog w = .ok false w := equalIn_other 9999 hne w hb hd
theorem eql_other {b d : Nat} (hne : d ≠ b) (w : World) {s t : Int} {u v : Value} (hb : Lk w b s u) (hd : Lk w d t v) : (binOp .eql 32 (.pointer (some ⟨d, 0, none⟩)) (.pointer (some ⟨b, 0, none⟩))).run Try.prog w = .ok (.bool false) w := by
  simp only [binOp]
  simp [equal_other hne w hb hd]
theorem Lk.drewN {w : World} {b : Nat} {s : Int} {nx : Value} (h : Lk w b s nx) (j : Nat) : Lk (w.drewN j) b s nx := ⟨h.seq, h.next, h.blk⟩

theorem inner_nil (K : Nat) (w : World) (hk : Wk w K none none) :
    Calls Try.prog 26 #[.pointer (some ⟨K, 0, none⟩)] w fun e w' => e = .returned (.pointer none) ∧ ∃ j, w' = w.drewN j := by
  go_enter Try.func26, Try.ntmps26
  go_wp2_with (go_at_call 28; refine (peek_nil K none _ hk).mono ?_; rintro e w' ⟨rfl, j, rfl⟩)
  go_ret
  exact ⟨rfl, _, rfl⟩
set_option maxRecDepth 100000 in
theorem inner_g (K b : Nat) (x nx : Option Addr) (s : Int) (w : World) (hk : Wk w K (some ⟨b, 0, none⟩) x) (hb : Lk w b s (.pointer nx))
    (hp : Calls Try.prog 28 #[.pointer (some ⟨K, 0, none⟩)] w fun e w' => e = .returned (.pointer (some ⟨b, 0, none⟩)) ∧ ∃ j, w' = w.drewN j) :
    Calls Try.prog 26 #[.pointer (some ⟨K, 0, none⟩)] w fun e w' => e = .returned (.pointer (some ⟨b, 0, none⟩)) ∧ ∃ j, w' = (w.drewN j).setCell ⟨K, 0, none⟩ (.pointer nx) := by
  have c0 := hk.gr
  have f0 := hk.fg
  have n0 := hb.next
  have hE := fun W => eql_same ⟨b, 0, none⟩ W
  go_enter Try.func26, Try.ntmps26
  go_wp2_with (go_at_call 28; refine hp.mono ?_; rintro e w' ⟨rfl, j, rfl⟩)
  go_ret
  exact ⟨rfl, _, rfl⟩
set_option maxRecDepth 100000 in
theorem inner_w (K d : Nat) (g nx : Option Addr) (t : Int) (w : World) (hk : Wk w K g (some ⟨d, 0, none⟩)) (hd : Lk w d t (.pointer nx)) (hne : g = none ∨ ∃ b s u, g = some ⟨b, 0, none⟩ ∧ d ≠ b ∧ Lk w b s u)
    (hp : Calls Try.prog 28 #[.pointer (some ⟨K, 0, none⟩)] w fun e w' => e = .returned (.pointer (some ⟨d, 0, none⟩)) ∧ ∃ j, w' = w.drewN j) :
    Calls Try.prog 26 #[.pointer (some ⟨K, 0, none⟩)] w fun e w' => e = .returned (.pointer (some ⟨d, 0, none⟩)) ∧ ∃ j, w' = (w.drewN j).setCell ⟨K, 1, none⟩ (.pointer nx) := by
  have c0 := hk.gr
  have c1 := hk.wa
  have f1 := hk.fw
  have n0 := hd.next
  rcases hne with rfl | ⟨b, s, u, rfl, hne, hb⟩
  · go_enter Try.func26, Try.ntmps26
    go_wp2_with (go_at_call 28; refine hp.mono ?_; rintro e w' ⟨rfl, j, rfl⟩)
    go_ret
    exact ⟨rfl, _, rfl⟩
  · have hE := fun j => eql_other hne (w.drewN j) (hb.drewN j) (hd.drewN j)
    go_enter Try.func26, Try.ntmps26
    go_wp2_with (go_at_call 28; refine hp.mono ?_; rintro e w' ⟨rfl, j, rfl⟩)
    go_ret
    exact ⟨rfl, _, rfl⟩

/-- ZZnext, by what next does. -/
theorem outer (K : Nat) (r : Option Addr) (w : World) (P : World → Prop)
    (hp : Calls Try.prog 26 #[.pointer (some ⟨K, 0, none⟩)] w fun e w' => e = .returned (.pointer r) ∧ P w') :
    Calls Try.prog 18 #[.pointer (some ⟨K, 0, none⟩)] w fun e w' => e = .returned (.pointer r) ∧ P w' := by
  go_enter Try.func18, Try.ntmps18
  go_wp2_with (go_at_call 26; refine hp.mono ?_; rintro e w' ⟨rfl, hP⟩)
  go_ret
  exact ⟨rfl, hP⟩

/-- ZZnext at the end. -/
theorem next_nil (K : Nat) (w : World) (hk : Wk w K none none) :
    Calls Try.prog 18 #[.pointer (some ⟨K, 0, none⟩)] w fun e w' => e = .returned (.pointer none) ∧ ∃ j, w' = w.drewN j := outer K none w _ (inner_nil K w hk)

theorem Wk.setG {w : World} {K : Nat} {g x : Option Addr} (h : Wk w K g x) (y : Option Addr) : Wk (w.setCell ⟨K, 0, none⟩ (.pointer y)) K y x :=
  ⟨World.cell?_setCell_same _ _ _ h.gr, by rw [World.cell?_setCell_other _ _ _ _ (by simp)]; exact h.wa, by rw [World.frozen?_setCell]; exact h.fg, by rw [World.frozen?_setCell]; exact h.fw⟩
theorem Wk.setW {w : World} {K : Nat} {g x : Option Addr} (h : Wk w K g x) (y : Option Addr) : Wk (w.setCell ⟨K, 1, none⟩ (.pointer y)) K g y :=
  ⟨by rw [World.cell?_setCell_other _ _ _ _ (by simp)]; exact h.gr, World.cell?_setCell_same _ _ _ h.wa, by rw [World.frozen?_setCell]; exact h.fg, by rw [World.frozen?_setCell]; exact h.fw⟩
theorem Wk.drewN {w : World} {K : Nat} {g x : Option Addr} (h : Wk w K g x) (j : Nat) : Wk (w.drewN j) K g x := ⟨h.gr, h.wa, h.fg, h.fw⟩
theorem Chain.drewN {w : World} {B T h n : Nat} {q : Nat → Nat} {f : Nat → Int} (hc : Chain w B T h n q f) (j : Nat) : Chain (w.drewN j) B T h n q f :=
  ⟨hc.row.drewN j, fun i hi => (hc.lock i hi).drewN j, hc.lo, hc.hi, hc.lock_lo, hc.lock_hi⟩

/-- The two chains and the walk's record, gi locks of the one and wi of the other gone by. -/
structure St (w : World) (K B T U hg ng hw nw : Nat) (qg qw : Nat → Nat) (fg fw : Nat → Int) (gi wi : Nat) : Prop where
  wk : Wk w K (nodeA qg ng gi) (nodeA qw nw wi)
  cg : Chain w B T hg ng qg fg
  cw : Chain w T U hw nw qw fw
  above : U ≤ K

theorem St.drewN {w : World} {K B T U hg ng hw nw : Nat} {qg qw : Nat → Nat} {fg fw : Nat → Int} {gi wi : Nat} (h : St w K B T U hg ng hw nw qg qw fg fw gi wi) (j : Nat) : St (w.drewN j) K B T U hg ng hw nw qg qw fg fw gi wi :=
  ⟨h.wk.drewN j, h.cg.drewN j, h.cw.drewN j, h.above⟩
theorem St.tu {w : World} {K B T U hg ng hw nw : Nat} {qg qw : Nat → Nat} {fg fw : Nat → Int} {gi wi : Nat} (h : St w K B T U hg ng hw nw qg qw fg fw gi wi) : T ≤ K := by
  have := h.cw.lo; have := h.cw.hi; have := h.above; omega

/-- ZZnext where the granted queue gives the lock. -/
theorem next_g {w : World} {K B T U hg ng hw nw : Nat} {qg qw : Nat → Nat} {fg fw : Nat → Int} {gi wi : Nat} (h : St w K B T U hg ng hw nw qg qw fg fw gi wi) (hgi : gi < ng) (hle : wi < nw → ¬ fw wi < fg gi) :
    Calls Try.prog 18 #[.pointer (some ⟨K, 0, none⟩)] w fun e w' => e = .returned (.pointer (nodeA qg ng gi)) ∧ St w' K B T U hg ng hw nw qg qw fg fw (gi + 1) wi ∧ Below K w w' := by
  have hk := h.wk
  have hL := h.cg.lock gi hgi
  have fin : ∀ w', (∃ j, w' = (w.drewN j).setCell ⟨K, 0, none⟩ (.pointer (nodeA qg ng (gi + 1)))) → St w' K B T U hg ng hw nw qg qw fg fw (gi + 1) wi ∧ Below K w w' := by
    rintro _ ⟨j, rfl⟩
    exact ⟨⟨(hk.drewN j).setG _, (h.cg.drewN j).other h.tu _, (h.cw.drewN j).other h.above _, h.above⟩, Below.setCell (B := K) (below_drewN (Below.refl _ _) j) (Nat.le_refl K) _⟩
  rw [nodeA_in hgi] at hk ⊢
  have hp : Calls Try.prog 28 #[.pointer (some ⟨K, 0, none⟩)] w fun e w' => e = .returned (.pointer (some ⟨qg gi, 0, none⟩)) ∧ ∃ j, w' = w.drewN j := by
    by_cases hwi : wi < nw
    · rw [nodeA_in hwi] at hk
      exact peek_gw K _ _ _ _ _ _ w hk hL (h.cw.lock wi hwi) (hle hwi)
    · rw [nodeA_out hwi] at hk
      exact peek_g K _ w hk
  exact (outer K _ w _ (inner_g K _ _ _ _ w hk hL hp)).mono fun e w' h => ⟨h.1, fin w' h.2⟩

/-- ZZnext where the wait queue gives the lock. -/
theorem next_w {w : World} {K B T U hg ng hw nw : Nat} {qg qw : Nat → Nat} {fg fw : Nat → Int} {gi wi : Nat} (h : St w K B T U hg ng hw nw qg qw fg fw gi wi) (hwi : wi < nw) (hlt : gi < ng → fw wi < fg gi) :
    Calls Try.prog 18 #[.pointer (some ⟨K, 0, none⟩)] w fun e w' => e = .returned (.pointer (nodeA qw nw wi)) ∧ St w' K B T U hg ng hw nw qg qw fg fw gi (wi + 1) ∧ Below K w w' := by
  have hk := h.wk
  have hL := h.cw.lock wi hwi
  have fin : ∀ w', (∃ j, w' = (w.drewN j).setCell ⟨K, 1, none⟩ (.pointer (nodeA qw nw (wi + 1)))) → St w' K B T U hg ng hw nw qg qw fg fw gi (wi + 1) ∧ Below K w w' := by
    rintro _ ⟨j, rfl⟩
    exact ⟨⟨(hk.drewN j).setW _, (h.cg.drewN j).other h.tu _, (h.cw.drewN j).other h.above _, h.above⟩, Below.setCell (B := K) (below_drewN (Below.refl _ _) j) (Nat.le_refl K) _⟩
  rw [nodeA_in hwi] at hk ⊢
  by_cases hgi : gi < ng
  · have hG := h.cg.lock gi hgi
    rw [nodeA_in hgi] at hk
    have hp := peek_wg K _ _ _ _ _ _ w hk hG hL (hlt hgi)
    have hne : qw wi ≠ qg gi := by
      have := h.cw.lock_lo wi hwi; have := h.cg.lock_hi gi hgi; omega
    exact (outer K _ w _ (inner_w K _ _ _ _ w hk hL (Or.inr ⟨_, _, _, rfl, hne, hG⟩) hp)).mono fun e w' h => ⟨h.1, fin w' h.2⟩
  · rw [nodeA_out hgi] at hk
    have hp := peek_nil K _ w hk
    exact (outer K _ w _ (inner_w K _ _ _ _ w hk hL (Or.inl rfl) hp)).mono fun e w' h => ⟨h.1, fin w' h.2⟩

/-- ZZnext at the end. -/
theorem next_end {w : World} {K B T U hg ng hw nw : Nat} {qg qw : Nat → Nat} {fg fw : Nat → Int} {gi wi : Nat} (h : St w K B T U hg ng hw nw qg qw fg fw gi wi) (hgi : ¬ gi < ng) (hwi : ¬ wi < nw) :
    Calls Try.prog 18 #[.pointer (some ⟨K, 0, none⟩)] w fun e w' => e = .returned (.pointer none) ∧ ∃ j, w' = w.drewN j := by
  have hk := h.wk
  rw [nodeA_out hgi, nodeA_out hwi] at hk
  exact next_nil K w hk
end Go.Proofs.Qxb6614371a
