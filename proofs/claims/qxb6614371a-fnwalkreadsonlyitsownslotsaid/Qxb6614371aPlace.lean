import Derived.Test.Qxb6614371aNext
import Derived.Maps.Own
import Derived.Laws.CopyOwn
import Derived.Maps.OwnOps
import Derived.Maps.Views
import Derived.Maps.OwnSet
namespace Go.Proofs.Qxb6614371a
open Go.RowKit Go.Maps
set_option linter.unusedVariables false
set_option linter.unusedSimpArgs false

/-- How a pointer to the head of a block reads, as a ghost of the proof. -/
def ptrElem : Value → Option (DataW Unit × List MemPlace)
  | .pointer none => some (.nil, [])
  | .pointer (some ⟨b, 0, none⟩) => some (.lit (.int .i64 b), [])
  | _ => none
def ptrD : Option Nat → DataW Unit
  | none => .nil
  | some b => .lit (.int .i64 b)
def ptrV : Option Nat → Value
  | none => .pointer none
  | some b => .pointer (some ⟨b, 0, none⟩)
theorem ptrElem_mk (p : Option Nat) : ptrElem (ptrV p) = some (ptrD p, []) := by cases p <;> rfl
theorem ptrElem_inv {v : Value} {p : Option Nat} {ps : List MemPlace} (h : ptrElem v = some (ptrD p, ps)) : v = ptrV p := by
  unfold ptrElem at h
  split at h
  · cases p with
    | none => rfl
    | some b => simp [ptrD] at h
  · cases p with
    | none => simp [ptrD] at h
    | some b => simp [ptrD] at h; obtain ⟨h, -⟩ := h; simp [ptrV, h]
  · cases h

theorem klaw : Keyed Try.prog 21 := int_keyed Try.underlying21
theorem zero35 (w : World) : (zeroValue 35).run Try.prog w = .ok (.pointer none) w := by kernel_rfl

/-- Block m is the map of wait queues; at 'slot' it holds p. -/
def Mp (w : World) (m : Nat) (slot : Int) (p : Option Nat) : Prop :=
  ∃ n D, w.ownsMap Try.prog 21 ptrElem m n D ∧ n ≤ 8 ∧ D.atKey (.int .i32 slot) .nil = ptrD p

theorem Mp.below {B : Nat} {w w' : World} {m : Nat} {slot : Int} {p : Option Nat} (h : Mp w m slot p) (hb : Below B w w') (hB : m < B) : Mp w' m slot p := by
  obtain ⟨n, D, ⟨es, clock, hh, hF, hs, hD⟩, hn, hat⟩ := h
  exact ⟨n, D, ⟨es, clock, by rw [hb.block m hB]; exact hh, hF, hs, hD⟩, hn, hat⟩
theorem Mp.lt {w : World} {m : Nat} {slot : Int} {p : Option Nat} (h : Mp w m slot p) : m < w.heap.size := by
  obtain ⟨n, D, ho, -⟩ := h
  exact ho.lt
theorem Mp.look {w : World} {m : Nat} {slot : Int} {p : Option Nat} (h : Mp w m slot p) (hwf : (Lit.int .i32 slot).wf = true) :
    (Instr.lookup 34 (.map (some m)) (.int .i32 slot) false).run Try.prog w = .ok (ptrV p) w := by
  obtain ⟨n, D, ho, hn, hat⟩ := h
  obtain ⟨v, ps, hrun, hv⟩ := ho.lookup klaw Try.underlying34 (zero35 w) (zd := .nil) (zp := []) rfl (keyOf_int_mk Try.underlying21 hwf)
  rw [hat] at hv
  rw [ptrElem_inv hv] at hrun
  exact hrun

theorem newWq_any (p q : Option Addr) (w : World) :
    Calls Try.prog 14 #[.pointer p, .pointer q] w fun e w' => e = .returned (.pointer (some ⟨w.heap.size, 0, none⟩)) ∧ w'.cell? ⟨w.heap.size, 0, none⟩ = some (.pointer p) ∧ Below w.heap.size w w' := by
  go_enter Try.func14, Try.ntmps14
  go_wp2
  go_ret
  exact ⟨rfl, cell_new w (.pointer p :: .pointer q :: List.replicate 16 (.int .i64 0)) 59 0 _ rfl, (Below.refl _ _).alloc (Nat.le_refl _) _⟩

/-- The index at block i: its queues and its map of wait queues. -/
structure Ix (w : World) (i h n m : Nat) : Prop where
  qs : w.cell? ⟨i, 7, none⟩ = some (.slice (some ⟨h, 0, none⟩) n n)
  ws : w.cell? ⟨i, 9, none⟩ = some (.map (some m))
theorem Ix.below {B : Nat} {w w' : World} {i h n m : Nat} (x : Ix w i h n m) (hb : Below B w w') (hB : i < B) : Ix w' i h n m :=
  ⟨by rw [hb.cell hB]; exact x.qs, by rw [hb.cell hB]; exact x.ws⟩
theorem Ix.lt {w : World} {i h n m : Nat} (x : Ix w i h n m) : i < w.heap.size := World.block_lt_of_cell? _ _ x.qs

theorem newIx_any (h n m : Nat) (w : World) :
    Calls Try.prog 17 #[.slice (some ⟨h, 0, none⟩) n n, .map (some m)] w fun e w' => e = .returned (.pointer (some ⟨w.heap.size, 0, none⟩)) ∧ Ix w' w.heap.size h n m ∧ Below w.heap.size w w' := by
  go_enter Try.func17, Try.ntmps17
  go_wp2
  go_ret
  exact ⟨rfl, ⟨cell_new w [.string ⟨#[]⟩, .int .i64 0, .bool false, .pointer none, .pointer none, .pointer none, .pointer none, .slice (some ⟨h, 0, none⟩) n n, .map none, .map (some m), .slice none 0 0, .int .i64 0, .slice none 0 0, .int .u64 0] 70 7 _ rfl,
    cell_new w [.string ⟨#[]⟩, .int .i64 0, .bool false, .pointer none, .pointer none, .pointer none, .pointer none, .slice (some ⟨h, 0, none⟩) n n, .map none, .map (some m), .slice none 0 0, .int .i64 0, .slice none 0 0, .int .u64 0] 70 9 _ rfl⟩, (Below.refl _ _).alloc (Nat.le_refl _) _⟩

theorem size42 : (Try.prog.info? 42).map (·.size) = some 2 := by kernel_rfl
theorem size38 : (Try.prog.info? 38).map (·.size) = some 2 := by kernel_rfl

theorem newPlace_any (p : Option Addr) (x : Int) (w : World) :
    Calls Try.prog 16 #[.pointer p, .int .i32 x] w fun e w' => e = .returned (.agg #[.pointer p, .int .i32 x]) ∧ Below w.heap.size w w' := by
  go_enter Try.func16, Try.ntmps16
  go_wp2
  refine bodyPost_ret (v := .agg #[.pointer p, .int .i32 x]) (results_cell_row Try.results16 _ _ w.heap.size 42 #[.pointer p, .int .i32 x] (0, 0) _ rfl (heap_alloc_new w _) Try.underlying42 rfl size42) rfl ⟨rfl, ?_⟩
  exact (Below.refl _ _).alloc (Nat.le_refl _) _

theorem waitQueue_any (i h n m : Nat) (slot : Int) (p : Option Nat) (w : World) (hix : Ix w i h n m) (hm : Mp w m slot p) (hwf : (Lit.int .i32 slot).wf = true) :
    Calls Try.prog 27 #[.agg #[.pointer (some ⟨i, 0, none⟩), .int .i32 slot]] w fun e w' => e = .returned (ptrV p) ∧ Below w.heap.size w w' := by
  go_enter Try.func27, Try.ntmps27
  go_upto_region 0 with fail
  go_cut [1, 2] (fun x y W => x = .pointer (some ⟨w.heap.size, 0, none⟩) ∧ y = .pointer none ∧ W.cell? ⟨w.heap.size, 0, none⟩ = some (.pointer (some ⟨i, 0, none⟩)) ∧ W.cell? ⟨w.heap.size, 1, none⟩ = some (.int .i32 slot) ∧ Below w.heap.size w W)
  case first =>
    go_wp2
    go_meet
    case rel => exact ⟨rfl, rfl, cell_new w [.pointer (some ⟨i, 0, none⟩), .int .i32 slot] 42 0 _ rfl, cell_new w [.pointer (some ⟨i, 0, none⟩), .int .i32 slot] 42 1 _ rfl, (Below.refl _ _).alloc (Nat.le_refl _) _⟩
  case rest =>
    obtain ⟨rfl, rfl, c0, c1, hb⟩ := hcut
    have hws := (hix.below hb hix.lt).ws
    have hmc := hm.below hb hm.lt
    have hl : ∀ j, (Instr.lookup 34 (.map (some m)) (.int .i32 slot) false).run Try.prog (wc.drewN j) = .ok (ptrV p) (wc.drewN j) := fun j => Mp.look (w := wc.drewN j) hmc hwf
    have HB : Hid _ := hb
    clear hmc hb hm hix hwf
    go_upto_region 1 with fail
    go_quiet (fail)
    go_wp2
    go_ret
    exact ⟨rfl, below_drewN HB.out _⟩

/-- Block g of w is a row of the cells cs, none of them frozen. -/
def Row (w : World) (g : Nat) (cs : List Value) (t : TypeId) : Prop := w.heap[g]? = some (.cells cs.toArray t (0, 0))
theorem Row.lt {w : World} {g : Nat} {cs : List Value} {t : TypeId} (h : Row w g cs t) : g < w.heap.size := (Array.getElem?_eq_some_iff.1 h).1
theorem Row.cell {w : World} {g : Nat} {cs : List Value} {t : TypeId} (h : Row w g cs t) (i : Nat) : w.cell? ⟨g, i, none⟩ = cs[i]? := by
  unfold Row at h
  simp [World.cell?, h]
theorem Row.free {w : World} {g : Nat} {cs : List Value} {t : TypeId} (h : Row w g cs t) (i : Nat) : w.frozen? ⟨g, i, none⟩ = false := by
  unfold Row at h
  simp [World.frozen?, h]
theorem Row.below {w w' : World} {B g : Nat} {cs : List Value} {t : TypeId} (h : Row w g cs t) (hb : Below B w w') (hB : g < B) : Row w' g cs t := by
  unfold Row
  rw [hb.block g hB]; exact h
theorem Row.setCell {w : World} {g : Nat} {cs : List Value} {t : TypeId} (h : Row w g cs t) (i : Nat) (v : Value) : Row (w.setCell ⟨g, i, none⟩ v) g (cs.set i v) t := by
  have := setCell_eq_setRow w g i cs.toArray t (0, 0) v h
  unfold Row
  rw [this, setRow_heap w g _ _ t _ h]
  simp
theorem Row.other {w : World} {g : Nat} {cs : List Value} {t : TypeId} (h : Row w g cs t) {a : Addr} (ha : a.block ≠ g) (v : Value) : Row (w.setCell a v) g cs t := by
  unfold Row
  rw [Below.heap_setCell w a v g (Ne.symm ha)]; exact h
theorem row_new (w : World) (cs : List Value) (t g : Nat) (hg : g = w.heap.size) : Row (w.alloc (.cells cs.toArray t)) g cs t := by
  subst hg; exact heap_alloc_new w _
theorem Row.alloc {w : World} {g : Nat} {cs : List Value} {t : TypeId} (h : Row w g cs t) (o : Obj) : Row (w.alloc o) g cs t := by
  unfold Row
  rw [heap_alloc_old w o h.lt]; exact h
theorem Row.setRow {w : World} {g : Nat} {cs ds : List Value} {t : TypeId} (h : Row w g cs t) : Row (w.setRow g ds.toArray) g ds t := setRow_heap w g _ _ t _ h
theorem cell_below {B : Nat} {w w' : World} {a : Addr} {v : Value} (h : w.cell? a = some v) (hb : Below B w w') (hB : w.heap.size ≤ B) : w'.cell? a = some v := by
  rw [hb.cell (Nat.lt_of_lt_of_le (World.block_lt_of_cell? _ _ h) hB)]; exact h

set_option maxRecDepth 100000 in
set_option maxHeartbeats 2000000 in
/-- place.walk. -/
theorem walk_any (i h n m k : Nat) (p : Option Nat) (gq wq : Option Addr) (w : World) (hix : Ix w i h n m) (hm : Mp w m k p) (hk : k < n) (hn : n ≤ 65538) (hq : w.cell? ⟨h, k, none⟩ = some (.pointer gq))
    (hp : (p = none ∧ wq = none) ∨ ∃ b, p = some b ∧ w.cell? ⟨b, 0, none⟩ = some (.pointer wq)) :
    Calls Try.prog 25 #[.agg #[.pointer (some ⟨i, 0, none⟩), .int .i32 k]] w fun e w' => e = .returned (.agg #[.pointer gq, .pointer wq]) ∧ Below w.heap.size w w' := by
  have hwf : (Lit.int .i32 (k : Int)).wf = true := by simp [Lit.wf, IntKind.min, IntKind.max, IntKind.signed, IntKind.bits]; omega
  go_enter Try.func25, Try.ntmps25
  go_upto_region 0 with fail
  go_cut [1, 2] (fun x y W => x = .pointer (some ⟨w.heap.size, 0, none⟩) ∧ y = .pointer (some ⟨w.heap.size + 1, 0, none⟩) ∧ Row W w.heap.size [.pointer (some ⟨i, 0, none⟩), .int .i32 k] 42 ∧ Row W (w.heap.size + 1) [.pointer none, .pointer none] 38 ∧ Below w.heap.size w W)
  case first =>
    go_wp2
    go_meet
    case rel => exact ⟨rfl, rfl, (row_new w [.pointer (some ⟨i, 0, none⟩), .int .i32 k] 42 _ rfl).alloc _, row_new _ [.pointer none, .pointer none] 38 _ (by simp), ((Below.refl _ _).alloc (Nat.le_refl _) _).alloc (by simp) _⟩
  case rest =>
    obtain ⟨rfl, rfl, r0, r1, hb⟩ := hcut
    have hix1 := hix.below hb hix.lt
    have hm1 := hm.below hb hm.lt
    have hq1 := cell_below hq hb (Nat.le_refl _)
    have hp1 : (p = none ∧ wq = none) ∨ ∃ b, p = some b ∧ wc.cell? ⟨b, 0, none⟩ = some (.pointer wq) := hp.imp id (fun ⟨b, e, c⟩ => ⟨b, e, cell_below c hb (Nat.le_refl _)⟩)
    have R0 : Hid _ := r0
    have R1 : Hid _ := r1
    have HIX : Hid _ := hix1
    have HM : Hid _ := hm1
    have HQ : Hid _ := hq1
    have HP : Hid _ := hp1
    have HB : Hid _ := hb
    clear hix hm hq hp r0 r1 hix1 hm1 hq1 hp1 hb
    have hk1 : (k : Int) < n := by omega
    go_upto_region 1 with fail
    go_cut [3] (fun x W => ∃ G, x = .pointer (some ⟨G, 0, none⟩) ∧ Row W G [.pointer gq, .pointer none] 38 ∧ wc.heap.size ≤ G ∧ Below wc.heap.size wc W)
    case first =>
      refine wp_region_held_drew (S := Below wc.heap.size wc) (by kernel_rfl) (Below.refl _ _).drew (fun hS => ?_)
      refine wpAnyH_take (i := 0) (v := .pointer (some ⟨w.heap.size, 0, none⟩)) rfl (by kernel_rfl) (by kernel_rfl) (by kernel_rfl) (fun _ _ _ h => h) (Or.inl ⟨by rfl, fun W hW => by go_simp⟩) hS ?_
      simp only [Act.put, List.getElem_toArray, List.getElem_cons_zero, List.getElem_cons_succ, List.setIfInBounds_toArray, List.set_cons_zero, List.set_cons_succ]
      refine wpAnyH_take (i := 1) (v := .pointer (some ⟨i, 0, none⟩)) rfl (by kernel_rfl) (by kernel_rfl) (by kernel_rfl) (fun _ _ _ h => h) (Or.inl ⟨by rfl, fun W hW => by have c : W.cell? ⟨w.heap.size, 0, none⟩ = some (.pointer (some ⟨i, 0, none⟩)) := Row.cell (Row.below R0.out hW (Row.lt R0.out)) 0; go_simp⟩) hS ?_
      simp only [Act.put, List.getElem_toArray, List.getElem_cons_zero, List.getElem_cons_succ, List.setIfInBounds_toArray, List.set_cons_zero, List.set_cons_succ]
      refine wpAnyH_take (i := 2) (v := .pointer (some ⟨i, 0, none⟩)) rfl (by kernel_rfl) (by kernel_rfl) (by kernel_rfl) (fun _ _ _ h => h) (Or.inl ⟨by rfl, fun W hW => by go_simp⟩) hS ?_
      simp only [Act.put, List.getElem_toArray, List.getElem_cons_zero, List.getElem_cons_succ, List.setIfInBounds_toArray, List.set_cons_zero, List.set_cons_succ]
      refine wpAnyH_take (i := 3) (v := .pointer (some ⟨i, 7, none⟩)) rfl (by kernel_rfl) (by kernel_rfl) (by kernel_rfl) (fun _ _ _ h => h) (Or.inl ⟨by rfl, fun W hW => by go_simp⟩) hS ?_
      simp only [Act.put, List.getElem_toArray, List.getElem_cons_zero, List.getElem_cons_succ, List.setIfInBounds_toArray, List.set_cons_zero, List.set_cons_succ]
      refine wpAnyH_take (i := 4) (v := .slice (some ⟨h, 0, none⟩) n n) rfl (by kernel_rfl) (by kernel_rfl) (by kernel_rfl) (fun _ _ _ h => h) (Or.inl ⟨by rfl, fun W hW => by have c := (Ix.below HIX.out hW (Ix.lt HIX.out)).qs; go_simp⟩) hS ?_
      simp only [Act.put, List.getElem_toArray, List.getElem_cons_zero, List.getElem_cons_succ, List.setIfInBounds_toArray, List.set_cons_zero, List.set_cons_succ]
      refine wpAnyH_take (i := 5) (v := .pointer (some ⟨w.heap.size, 1, none⟩)) rfl (by kernel_rfl) (by kernel_rfl) (by kernel_rfl) (fun _ _ _ h => h) (Or.inl ⟨by rfl, fun W hW => by go_simp⟩) hS ?_
      simp only [Act.put, List.getElem_toArray, List.getElem_cons_zero, List.getElem_cons_succ, List.setIfInBounds_toArray, List.set_cons_zero, List.set_cons_succ]
      refine wpAnyH_take (i := 6) (v := .int .i32 k) rfl (by kernel_rfl) (by kernel_rfl) (by kernel_rfl) (fun _ _ _ h => h) (Or.inl ⟨by rfl, fun W hW => by have c : W.cell? ⟨w.heap.size, 1, none⟩ = some (.int .i32 k) := Row.cell (Row.below R0.out hW (Row.lt R0.out)) 1; go_simp⟩) hS ?_
      simp only [Act.put, List.getElem_toArray, List.getElem_cons_zero, List.getElem_cons_succ, List.setIfInBounds_toArray, List.set_cons_zero, List.set_cons_succ]
      refine wpAnyH_take (i := 7) (v := .pointer (some ⟨h, k, none⟩)) rfl (by kernel_rfl) (by kernel_rfl) (by kernel_rfl) (fun _ _ _ h => h) (Or.inl ⟨by rfl, fun W hW => by go_simp⟩) hS ?_
      simp only [Act.put, List.getElem_toArray, List.getElem_cons_zero, List.getElem_cons_succ, List.setIfInBounds_toArray, List.set_cons_zero, List.set_cons_succ]
      refine wpAnyH_take (i := 8) (v := .pointer gq) rfl (by kernel_rfl) (by kernel_rfl) (by kernel_rfl) (fun _ _ _ h => h) (Or.inl ⟨by rfl, fun W hW => by have c := cell_below HQ.out hW (Nat.le_refl _); go_simp⟩) hS ?_
      simp only [Act.put, List.getElem_toArray, List.getElem_cons_zero, List.getElem_cons_succ, List.setIfInBounds_toArray, List.set_cons_zero, List.set_cons_succ]
      refine wpAnyH_take (i := 9) (v := .agg #[.pointer gq, .pointer none]) rfl (by kernel_rfl) (by kernel_rfl) (by kernel_rfl) (fun _ _ _ h => h) (Or.inl ⟨by rfl, fun W hW => by go_simp⟩) hS ?_
      simp only [Act.put, List.getElem_toArray, List.getElem_cons_zero, List.getElem_cons_succ, List.setIfInBounds_toArray, List.set_cons_zero, List.set_cons_succ]
      refine wpAnyH_ready (rs := [10]) (by kernel_rfl) (by simp) (AllReadyH.cons rfl (fun K hK => ?_) AllReadyH.nil)
      go_simp
      have z0 : Row (wc.alloc (.cells [Value.pointer none, Value.pointer none].toArray 38)).drew wc.heap.size [.pointer none, .pointer none] 38 := row_new wc [.pointer none, .pointer none] 38 _ rfl
      have t0 : Below wc.heap.size wc (wc.alloc (.cells [Value.pointer none, Value.pointer none].toArray 38)).drew := ((Below.refl _ _).alloc (Nat.le_refl _) _).drew
      have hth : World.there (wc.alloc (.cells [Value.pointer none, Value.pointer none].toArray 38)).drew wc.heap.size 0 2 := by
        intro j hj
        rw [Nat.zero_add]
        refine ⟨?_, z0.free j⟩
        rw [z0.cell j]
        match j, hj with
        | 0, _ => rfl
        | 1, _ => rfl
      refine hK.out _ _ t0 (fun s0 => ?_)
      clear hK
      refine wpAnyH_ready (rs := [11]) (by kernel_rfl) (by simp) (AllReadyH.cons rfl (fun K hK => ?_) AllReadyH.nil)
      rw [if_pos (by rfl)]
      refine wp_store_mid 38 _ _ rfl wc.heap.size 0 #[.pointer gq, .pointer none] rfl rfl hth size38 (by simp [Value.oneCell']) ?_
      have z1 := (z0.setCell 0 (.pointer gq)).setCell 1 (.pointer none)
      have t1 := (t0.setCell (p := ⟨wc.heap.size, 0, none⟩) (Nat.le_refl _) (.pointer gq)).setCell (p := ⟨wc.heap.size, 1, none⟩) (Nat.le_refl _) (.pointer none)
      refine hK.out _ _ t1 (fun sf => ?_)
      clear hK
      refine wpAnyH_done (by kernel_rfl) ?_ _
      simp only [Act.put, List.getElem_toArray, List.getElem_cons_zero, List.getElem_cons_succ, List.toList_toArray]
      go_wp2_with fail
      go_meet
      exact ⟨_, rfl, z1, Nat.le_refl _, t1⟩
    case rest =>
      obtain ⟨G, rfl, rG, hG, hb⟩ := hcut
      have rB := Row.below R0.out hb (Row.lt R0.out)
      have rR := Row.below R1.out hb (Row.lt R1.out)
      have hixW := Ix.below HIX.out hb (Ix.lt HIX.out)
      have hmW := Mp.below HM.out hb (Mp.lt HM.out)
      have hbW := Below.trans HB.out (hb.mono (Below.size HB.out))
      have hwc : w.heap.size + 1 < _ := Row.lt R1.out
      have hGne : w.heap.size + 1 ≠ G := by omega
      have hGne2 : w.heap.size ≠ G := by omega
      rcases HP.out with ⟨rfl, rfl⟩ | ⟨b, rfl, hbc⟩
      · clear HIX HM HQ HP HB R0 R1 hb
        go_upto_region 5 with (first
          | refine wpList_load_row rfl 42 (.tmp 1) rfl w.heap.size rfl 42 [Value.pointer (some ⟨i, 0, none⟩), Value.int .i32 k].toArray (0, 0) _ rB Try.underlying42 rfl size42 ?_
          | (go_at_call 27; refine (waitQueue_any i h n m k none _ hixW hmW hwf).mono ?_; rintro e w2 ⟨rfl, hw2⟩; simp only [ptrV]))
        have rG2 := rG.below hw2 rG.lt
        have rR2 := rR.below hw2 rR.lt
        have hb2 := hbW.trans (hw2.mono hbW.size)
        go_wp2_with (first
          | refine wpList_load_row rfl 38 (.tmp 3) rfl G rfl 38 [Value.pointer gq, Value.pointer none].toArray (0, 0) _ rG2 Try.underlying38 rfl size38 ?_
          | refine wpList_store_row rfl 38 _ _ rfl (w.heap.size + 1) [Value.pointer gq, Value.pointer none].toArray rfl rfl 38 _ rR2 size38 rfl (by simp [Value.oneCell']) ?_)
        refine bodyPost_ret (v := .agg #[.pointer gq, .pointer none]) (results_cell_row Try.results25 _ _ (w.heap.size + 1) 38 [Value.pointer gq, Value.pointer none].toArray (0, 0) _ rfl rR2.setRow Try.underlying38 rfl size38) rfl ⟨rfl, ?_⟩
        exact below_setRow hb2 (by omega) _
      · have hbc1 := cell_below hbc hb (Nat.le_refl _)
        clear HIX HM HQ HP HB R0 R1 hb hbc
        go_upto_region 4 with (first
          | refine wpList_load_row rfl 42 (.tmp 1) rfl w.heap.size rfl 42 [Value.pointer (some ⟨i, 0, none⟩), Value.int .i32 k].toArray (0, 0) _ rB Try.underlying42 rfl size42 ?_
          | (go_at_call 27; refine (waitQueue_any i h n m k (some b) _ hixW hmW hwf).mono ?_; rintro e w2 ⟨rfl, hw2⟩; simp only [ptrV]))
        have rG2 := rG.below hw2 rG.lt
        have rR2 := rR.below hw2 rR.lt
        have hb2 := hbW.trans (hw2.mono hbW.size)
        have cb := cell_below hbc1 hw2 (Nat.le_refl _)
        have cG : w2.cell? ⟨G, 1, none⟩ = some (.pointer none) := rG2.cell 1
        have fG := rG2.free 1
        have rG3 : Row (w2.setCell ⟨G, 1, none⟩ (.pointer wq)) G [.pointer gq, .pointer wq] 38 := rG2.setCell 1 _
        have rR3 : Row (w2.setCell ⟨G, 1, none⟩ (.pointer wq)) (w.heap.size + 1) [.pointer none, .pointer none] 38 := rR2.other (by simp; omega) _
        have hb3 : Below w.heap.size w (w2.setCell ⟨G, 1, none⟩ (.pointer wq)) := hb2.setCell (by simp; omega) _
        clear hw2 rB rG rR hixW hmW hbW hbc1 hb2
        have RG2 : Hid _ := rG2
        have RR2 : Hid _ := rR2
        clear rG2 rR2
        go_wp2_with (first
          | refine wpList_load_row rfl 38 (.tmp 3) rfl G rfl 38 [Value.pointer gq, Value.pointer wq].toArray (0, 0) _ rG3 Try.underlying38 rfl size38 ?_
          | refine wpList_store_row rfl 38 _ _ rfl (w.heap.size + 1) [Value.pointer gq, Value.pointer wq].toArray rfl rfl 38 _ rR3 size38 rfl (by simp [Value.oneCell']) ?_)
        refine bodyPost_ret (v := .agg #[.pointer gq, .pointer wq]) (results_cell_row Try.results25 _ _ (w.heap.size + 1) 38 [Value.pointer gq, Value.pointer wq].toArray (0, 0) _ rfl rR3.setRow Try.underlying38 rfl size38) rfl ⟨rfl, ?_⟩
        exact below_setRow hb3 (by omega) _

/-- ZZwalk. -/
theorem zwalk_any (i h n m k : Nat) (p : Option Nat) (gq wq : Option Addr) (w : World) (hix : Ix w i h n m) (hm : Mp w m k p) (hk : k < n) (hn : n ≤ 65538) (hq : w.cell? ⟨h, k, none⟩ = some (.pointer gq))
    (hp : (p = none ∧ wq = none) ∨ ∃ b, p = some b ∧ w.cell? ⟨b, 0, none⟩ = some (.pointer wq)) :
    Calls Try.prog 15 #[.agg #[.pointer (some ⟨i, 0, none⟩), .int .i32 k]] w fun e w' => e = .returned (.agg #[.pointer gq, .pointer wq]) ∧ Below w.heap.size w w' := by
  go_enter Try.func15, Try.ntmps15
  go_upto_region 0 with fail
  go_cut [1, 2] (fun x y W => x = .pointer (some ⟨w.heap.size, 0, none⟩) ∧ y = .pointer (some ⟨w.heap.size + 1, 0, none⟩) ∧ Row W w.heap.size [.pointer (some ⟨i, 0, none⟩), .int .i32 k] 42 ∧ Row W (w.heap.size + 1) [.pointer none, .pointer none] 38 ∧ Below w.heap.size w W)
  case first =>
    go_wp2
    go_meet
    case rel => exact ⟨rfl, rfl, (row_new w [.pointer (some ⟨i, 0, none⟩), .int .i32 k] 42 _ rfl).alloc _, row_new _ [.pointer none, .pointer none] 38 _ (by simp), ((Below.refl _ _).alloc (Nat.le_refl _) _).alloc (by simp) _⟩
  case rest =>
    obtain ⟨rfl, rfl, r0, r1, hb⟩ := hcut
    have hix1 := hix.below hb hix.lt
    have hm1 := hm.below hb hm.lt
    have hq1 := cell_below hq hb (Nat.le_refl _)
    have hp1 : (p = none ∧ wq = none) ∨ ∃ b, p = some b ∧ wc.cell? ⟨b, 0, none⟩ = some (.pointer wq) := hp.imp id (fun ⟨b, e, c⟩ => ⟨b, e, cell_below c hb (Nat.le_refl _)⟩)
    have HW : Hid _ := walk_any i h n m k p gq wq wc hix1 hm1 hk hn hq1 hp1
    clear hix hm hq hp hix1 hm1 hq1 hp1
    go_wp2_with (first
      | refine wpList_load_row rfl 42 (.tmp 1) rfl w.heap.size rfl 42 [Value.pointer (some ⟨i, 0, none⟩), Value.int .i32 k].toArray (0, 0) _ r0 Try.underlying42 rfl size42 ?_
      | (go_at_call 25; refine Calls.mono HW.out ?_; rintro e w2 ⟨rfl, hw2⟩; have rR2 := r1.below hw2 r1.lt)
      | refine wpList_store_row rfl 38 _ _ rfl (w.heap.size + 1) [Value.pointer gq, Value.pointer wq].toArray rfl rfl 38 _ rR2 size38 rfl (by simp [Value.oneCell']) ?_)
    refine bodyPost_ret (v := .agg #[.pointer gq, .pointer wq]) (results_cell_row Try.results15 _ _ (w.heap.size + 1) 38 [Value.pointer gq, Value.pointer wq].toArray (0, 0) _ rfl rR2.setRow Try.underlying38 rfl size38) rfl ⟨rfl, ?_⟩
    exact below_setRow (hb.trans (hw2.mono hb.size)) (by omega) _
end Go.Proofs.Qxb6614371a
