import Derived.Test.Qxb6614371aOrder
import Derived.Deep.RegionHeld3
import Derived.Deep.DeepCutAuto
namespace Go.Proofs.Qxb6614371a
open Go.RowKit
set_option linter.unusedVariables false
set_option linter.unusedSimpArgs false

theorem cell_new (w : World) (cs : List Value) (t : TypeId) (i : Nat) (v : Value) (hi : cs[i]? = some v) : (w.alloc (.cells cs.toArray t (0, 0))).cell? ⟨w.heap.size, i, none⟩ = some v := by
  unfold World.cell?
  simp only [heap_alloc_new w (.cells cs.toArray t (0, 0))]
  simp [hi]
theorem free_new (w : World) (cs : List Value) (t : TypeId) (i : Nat) : (w.alloc (.cells cs.toArray t (0, 0))).frozen? ⟨w.heap.size, i, none⟩ = false := by
  unfold World.frozen?
  simp only [heap_alloc_new w (.cells cs.toArray t (0, 0))]
  simp

/-- The lock at block b bears the number s and leads to nx. -/
structure Lk (w : World) (b : Nat) (s : Int) (nx : Value) : Prop where
  seq : w.cell? ⟨b, 8, none⟩ = some (.int .u32 s)
  next : w.cell? ⟨b, 11, none⟩ = some nx
  blk : ∃ cs : Array Value, w.heap[b]? = some (.cells cs 78 (0, 0))

theorem Lk.below {B : Nat} {w w' : World} {b : Nat} {s : Int} {nx : Value} (h : Lk w b s nx) (hb : Below B w w') (hB : b < B) : Lk w' b s nx :=
  ⟨by rw [hb.cell hB]; exact h.seq, by rw [hb.cell hB]; exact h.next, by rw [hb.block b hB]; exact h.blk⟩
theorem Lk.other {w : World} {b : Nat} {s : Int} {nx : Value} (h : Lk w b s nx) {a : Addr} (ha : a.block ≠ b) (v : Value) : Lk (w.setCell a v) b s nx :=
  ⟨by rw [World.cell?_setCell_other _ _ _ _ (by rintro rfl; exact ha rfl)]; exact h.seq, by rw [World.cell?_setCell_other _ _ _ _ (by rintro rfl; exact ha rfl)]; exact h.next,
    by rw [Below.heap_setCell w a v b (Ne.symm ha)]; exact h.blk⟩
theorem Lk.lt {w : World} {b : Nat} {s : Int} {nx : Value} (h : Lk w b s nx) : b < w.heap.size := World.block_lt_of_cell? _ _ h.seq

set_option maxRecDepth 100000 in
/-- ZZnewLock. -/
theorem newLock_any (s : Int) (p : Option Addr) (w : World) :
    Calls Try.prog 21 #[.int .u32 s, .pointer p] w fun e w' => e = .returned (.pointer (some ⟨w.heap.size, 0, none⟩)) ∧ Lk w' w.heap.size s (.pointer p) ∧ Below w.heap.size w w' := by
  go_enter Try.func21, Try.ntmps21
  go_wp2
  go_ret
  exact ⟨rfl, ⟨cell_new w [.pointer none, .int .u64 0, .pointer none, .int .i32 0, .int .u8 0, .int .u8 0, .int .u8 0, .bool false, .int .u32 s, .pointer none, .pointer none, .pointer p] 78 8 _ rfl,
    cell_new w [.pointer none, .int .u64 0, .pointer none, .int .i32 0, .int .u8 0, .int .u8 0, .int .u8 0, .bool false, .int .u32 s, .pointer none, .pointer none, .pointer p] 78 11 _ rfl, ⟨_, heap_alloc_new w _⟩⟩, (Below.refl _ _).alloc (Nat.le_refl _) _⟩

/-- Where node i of a chain of n lies. -/
def nodeA (q : Nat → Nat) (n i : Nat) : Option Addr := if i < n then some ⟨q i, 0, none⟩ else none
theorem nodeA_in {q : Nat → Nat} {n i : Nat} (hi : i < n) : nodeA q n i = some ⟨q i, 0, none⟩ := by unfold nodeA; rw [if_pos hi]
theorem nodeA_out {q : Nat → Nat} {n i : Nat} (hi : ¬ i < n) : nodeA q n i = none := by unfold nodeA; rw [if_neg hi]

/-- The chain of the locks numbered f, and the row of their pointers, all in blocks from B on below T. -/
structure Chain (w : World) (B T h n : Nat) (q : Nat → Nat) (f : Nat → Int) : Prop where
  row : Own w h n (fun i => .pointer (nodeA q n i))
  lock : ∀ i, i < n → Lk w (q i) (f i) (.pointer (nodeA q n (i + 1)))
  lo : B ≤ h
  hi : h < T
  lock_lo : ∀ i, i < n → B ≤ q i
  lock_hi : ∀ i, i < n → q i < T

theorem Chain.below {w w' : World} {B T h n : Nat} {q : Nat → Nat} {f : Nat → Int} (hc : Chain w B T h n q f) {C : Nat} (hb : Below C w w') (hC : T ≤ C) : Chain w' B T h n q f :=
  ⟨hc.row.below hb (Nat.lt_of_lt_of_le hc.hi hC), fun i hi => (hc.lock i hi).below hb (Nat.lt_of_lt_of_le (hc.lock_hi i hi) hC), hc.lo, hc.hi, hc.lock_lo, hc.lock_hi⟩
theorem Chain.other {w : World} {B T h n : Nat} {q : Nat → Nat} {f : Nat → Int} (hc : Chain w B T h n q f) {a : Addr} (ha : T ≤ a.block) (v : Value) : Chain (w.setCell a v) B T h n q f :=
  ⟨hc.row.other (by have := hc.hi; omega) v, fun i hi => (hc.lock i hi).other (by have := hc.lock_hi i hi; omega) v, hc.lo, hc.hi, hc.lock_lo, hc.lock_hi⟩

theorem info32 : (Try.prog.info? 32).map (fun i => (i.zero, i.size, i.bytes)) = some (some (.pointer none), 1, 8) := by kernel_rfl

theorem lt_of_heap {w : World} {k : Nat} {x : Obj} (h : w.heap[k]? = some x) : k < w.heap.size := by
  rcases Nat.lt_or_ge k w.heap.size with g | g
  · exact g
  · rw [Array.getElem?_eq_none g] at h; cases h

theorem chain_zero (a : Option Addr) (c : Nat) (f : Nat → Int) (w : World) :
    Calls Try.prog 12 #[.slice a 0 c] w fun e w' => ∃ h q, e = .returned (.slice (some ⟨h, 0, none⟩) 0 0) ∧ Chain w' w.heap.size w'.heap.size h 0 q f ∧ Below w.heap.size w w' := by
  obtain ⟨i0, hi, hz0, hz1, hz2⟩ := info_parts info32
  go_enter Try.func12, Try.ntmps12
  go_wp2_with (first | (at_make; refine wpList_make_full _ rfl _ _ 30 rfl w.heap.size 32 i0 (.pointer none) 1 Try.underlying30 hi hz0 hz1 _ _ _ _ 0 rfl rfl (by omega) (by omega) (by omega) (by unfold maxLen; omega) (Nat.le_refl _) ?_; intro w3 hown hgrow))
  refine wp_loop_rounds 1 ?_
  rw [rounds_succ]
  go_wp2
  go_ret
  obtain ⟨hg, hyl⟩ := made_block hown
  exact ⟨_, id, rfl, ⟨⟨by intro i hi; omega, by intro i hi; omega⟩, by intro i hi; omega, Nat.le_refl _, lt_of_heap hg, by intro i hi; omega, by intro i hi; omega⟩, (Below.refl _ _).grown hgrow (Nat.le_refl _) (by simp)⟩

set_option maxRecDepth 100000 in
set_option maxHeartbeats 1000000 in
theorem chain_some (b o n c : Nat) (f : Nat → Int) (w : World) (h : ∀ i, i < n → w.cell? ⟨b, o + i, none⟩ = some (.int .u32 (f i))) (hn : n ≤ 4096) (hbw : b < w.heap.size) :
    Calls Try.prog 12 #[.slice (some ⟨b, o, none⟩) n c] w fun e w' => ∃ h q, e = .returned (.slice (some ⟨h, 0, none⟩) n n) ∧ Chain w' w.heap.size w'.heap.size h n q f ∧ Below w.heap.size w w' := by
  obtain ⟨i0, hi, hz0, hz1, hz2⟩ := info_parts info32
  go_enter Try.func12, Try.ntmps12
  go_wp2_with (first | (at_make; refine wpList_make_full _ rfl _ _ 30 rfl w.heap.size 32 i0 (.pointer none) 1 Try.underlying30 hi hz0 hz1 _ _ _ _ n rfl rfl (by omega) (by omega) (by rw [hz2]; omega) (by unfold maxLen; omega) (Nat.le_refl _) ?_; intro w3 hown hgrow))
  obtain ⟨hg, hyl⟩ := made_block hown
  rw [show (Value.pointer none).cells = #[Value.pointer none] from rfl, made_rep] at hg
  have F0 := own_made hg
  have hB3 : Below w.heap.size w w3 := (Below.refl _ _).grown hgrow (Nat.le_refl _) (by simp)
  have hs3 := lt_of_heap hg
  clear hown hg hyl hi hz0 hz1 hz2 hgrow
  go_loopw [4, 5] (fun t5 t wr => ∃ (k : Nat) (q : Nat → Nat) (F : Nat → Value), k ≤ n ∧ t5 = .pointer (nodeA q n k) ∧ t = .int .i64 ((k : Int) - 1) ∧ Own wr w.heap.size n F ∧ (∀ i, k ≤ i → i < n → F i = .pointer (nodeA q n i)) ∧
    (∀ i, k ≤ i → i < n → Lk wr (q i) (f i) (.pointer (nodeA q n (i + 1)))) ∧ (∀ i, k ≤ i → i < n → w.heap.size < q i) ∧ w.heap.size < wr.heap.size ∧ Below w.heap.size w wr) (fun _ t _ => (intOf t + 1).toNat)
  case atStart => exact ⟨n, id, _, by omega, by rw [nodeA_out (by omega)], by go_num, F0, by intro i h1 h2; omega, by intro i h1 h2; omega, by intro i h1 h2; omega, by omega, hB3⟩
  case round =>
    clear F0 hB3 hs3
    obtain ⟨k, q, F, hkn, rfl, rfl, hF, hFn, hL, hq, hsz, hBr⟩ := hrel
    have HFn : Hid _ := hFn
    have HL : Hid _ := hL
    have HQ : Hid _ := hq
    clear hFn hL hq
    by_cases hk0 : k = 0
    · subst hk0
      go_wp2
      go_ret
      exact ⟨_, q, rfl, ⟨hF.congr (fun i hi => HFn.out i (by omega) hi), fun i hi => HL.out i (by omega) hi, Nat.le_refl _, hsz, fun i hi => Nat.le_of_lt (HQ.out i (by omega) hi), fun i hi => (HL.out i (by omega) hi).lt⟩, hBr⟩
    · obtain ⟨k, rfl⟩ : ∃ k', k = k' + 1 := ⟨k - 1, by omega⟩
      have hkn' : (k : Int) < n := by omega
      have g1 := h k (by omega)
      rw [← hBr.cell (p := ⟨b, o + k, none⟩) hbw] at g1
      have e1 : ((k + 1 : Nat) : Int) - 1 = k := by omega
      rw [e1]
      go_upto_region 7 with (first | (go_at_call 21; refine (newLock_any _ _ _).mono ?_; rintro e w4 ⟨rfl, hlk, hw4⟩))
      have hF4 := hF.below hw4 hsz
      have ck := hF4.cell k (by omega)
      have fk := hF4.free k (by omega)
      have hb4 := hBr.trans (hw4.mono hBr.size)
      go_wp2
      go_roundw
      case rel =>
        refine ⟨k, fun i => if i = k then wr.heap.size else q i, _, by omega, ?_, ?_, hF4.set k _, ?_, ?_, ?_, ?_, hb4.setCell (Nat.le_refl _) _⟩
        · rw [nodeA_in (by omega), if_pos rfl]
        · go_num
        · intro i h1 h2
          unfold upd
          by_cases e : i = k
          · rw [if_pos e, nodeA_in h2, if_pos e]
          · rw [if_neg e, HFn.out i (by omega) h2]
            unfold nodeA; rw [if_pos h2, if_pos h2]; dsimp only; rw [if_neg e]
        · intro i h1 h2
          have hne : w.heap.size ≠ wr.heap.size := by omega
          have hnx : nodeA (fun i => if i = k then wr.heap.size else q i) n (i + 1) = nodeA q n (i + 1) := by
            unfold nodeA
            by_cases e : i + 1 < n
            · rw [if_pos e, if_pos e]; dsimp only; rw [if_neg (by omega)]
            · rw [if_neg e, if_neg e]
          rw [hnx]
          dsimp only
          by_cases e : i = k
          · rw [if_pos e]; subst e
            exact hlk.other (by simpa using hne) _
          · rw [if_neg e]
            have := HQ.out i (by omega) h2
            exact ((HL.out i (by omega) h2).below hw4 (HL.out i (by omega) h2).lt).other (by simp; omega) _
        · intro i h1 h2
          dsimp only
          by_cases e : i = k
          · rw [if_pos e]; exact hsz
          · rw [if_neg e]; exact HQ.out i (by omega) h2
        · have := hw4.size
          simp; omega
      case measure => simp [intOf]

/-- zzChain. -/
theorem chain_any (a : Option Addr) (n c : Nat) (f : Nat → Int) (w : World) (h : Nms w a n f) (hn : n ≤ 4096) :
    Calls Try.prog 12 #[.slice a n c] w fun e w' => ∃ h q, e = .returned (.slice (some ⟨h, 0, none⟩) n n) ∧ Chain w' w.heap.size w'.heap.size h n q f ∧ Below w.heap.size w w' := by
  by_cases h0 : n = 0
  · subst h0; exact chain_zero a c f w
  · obtain ⟨b, o, rfl, hc0, -⟩ := h 0 (by omega)
    refine chain_some b o n c f w ?_ hn (World.block_lt_of_cell? _ _ hc0)
    intro i hi
    obtain ⟨_, _, e, hc, -⟩ := h i hi
    simp at e; obtain ⟨rfl, rfl⟩ := e
    exact hc

/-- zzHead. -/
theorem head_any (h n : Nat) (q : Nat → Nat) (w : World) (hn : n ≤ 4096) (hw : Own w h n (fun i => .pointer (nodeA q n i))) :
    Calls Try.prog 13 #[.slice (some ⟨h, 0, none⟩) n n] w fun e w' => e = .returned (.pointer (nodeA q n 0)) ∧ w = w' := by
  by_cases h0 : n = 0
  · subst h0
    rw [nodeA_out (by omega)]
    go_enter Try.func13, Try.ntmps13
    go_wp2
    go_ret
    exact ⟨rfl, rfl⟩
  · have c0 := hw.cell 0 (by omega)
    have hn1 : (0 : Int) < n := by omega
    have hn0 : ¬ (n : Int) = 0 := by omega
    go_enter Try.func13, Try.ntmps13
    go_wp2
    go_ret
    exact ⟨rfl, rfl⟩

/-- The node at position i of g followed by w. -/
def nodeF (ng nw : Nat) (qg qw : Nat → Nat) (i : Nat) : Option Addr := if i < ng then nodeA qg ng i else nodeA qw nw (i - ng)

/-- zzNode. -/
theorem node_any (h0 n0 h1 n1 i : Nat) (q0 q1 : Nat → Nat) (w : World) (hn0 : n0 ≤ 4096) (hn1 : n1 ≤ 4096) (hi : i < n0 + n1) (g0 : Own w h0 n0 (fun i => .pointer (nodeA q0 n0 i))) (g1 : Own w h1 n1 (fun i => .pointer (nodeA q1 n1 i))) :
    Calls Try.prog 19 #[.slice (some ⟨h0, 0, none⟩) n0 n0, .slice (some ⟨h1, 0, none⟩) n1 n1, .int .i64 i] w fun e w' => e = .returned (.pointer (nodeF n0 n1 q0 q1 i)) ∧ w = w' := by
  unfold nodeF
  by_cases hlt : i < n0
  · have c0 := g0.cell i hlt
    rw [if_pos hlt]
    have hlt' : (i : Int) < n0 := by omega
    go_enter Try.func19, Try.ntmps19
    go_wp2
    go_ret
    exact ⟨rfl, rfl⟩
  · have c1 := g1.cell (i - n0) (by omega)
    rw [if_neg hlt]
    have hlt' : ¬ (i : Int) < n0 := by omega
    have hsub : (i : Int) - n0 = ((i - n0 : Nat) : Int) := by omega
    have hlt2 : ((i - n0 : Nat) : Int) < n1 := by omega
    obtain ⟨j, hj⟩ : ∃ j, i - n0 = j := ⟨_, rfl⟩
    rw [hj] at c1 hsub hlt2 ⊢
    clear hj
    go_enter Try.func19, Try.ntmps19
    go_wp2
    go_ret
    exact ⟨rfl, rfl⟩
end Go.Proofs.Qxb6614371a
