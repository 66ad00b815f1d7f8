import Derived.Test.Qxb6614219aProg
import Derived.WalkKit
import Derived.WalkSpells
import Derived.WalkLawsBesides
import Derived.Deep.QuietTactic
import Derived.BigQuiet
import Derived.Laws.CopyOwn
import Derived.Deep.RegionHeld3
import Derived.Deep.DeepCutAuto
namespace Go.Proofs.Qxb6614219a
open Go.RowKit

/-- Block g of w is a row of the cells cs, none of them frozen. -/
def Row (w : World) (g : Nat) (cs : List Value) (t : TypeId) : Prop := w.heap[g]? = some (.cells cs.toArray t (0, 0))

theorem Row.lt {w : World} {g : Nat} {cs : List Value} {t : TypeId} (h : Row w g cs t) : g < w.heap.size := (Array.getElem?_eq_some_iff.1 h).1
theorem Row.cell {w : World} {g : Nat} {cs : List Value} {t : TypeId} (h : Row w g cs t) (i : Nat) : w.cell? ⟨g, i, none⟩ = cs[i]? := by
  unfold Row at h
  simp [World.cell?, h]
theorem Row.cell' {w : World} {g : Nat} {cs : List Value} {t : TypeId} (h : Row w g cs t) (i : Nat) (hi : i < cs.length) : w.cell? ⟨g, i, none⟩ = some cs[i] := by
  rw [h.cell, List.getElem?_eq_getElem hi]
theorem Row.free {w : World} {g : Nat} {cs : List Value} {t : TypeId} (h : Row w g cs t) (i : Nat) : w.frozen? ⟨g, i, none⟩ = false := by
  unfold Row at h
  simp [World.frozen?, h]
theorem Row.below {w w' : World} {B g : Nat} {cs : List Value} {t : TypeId} (h : Row w g cs t) (hb : Below B w w') (hB : g < B) : Row w' g cs t := by
  unfold Row
  rw [hb.block g hB]; exact h
theorem Row.drew {w : World} {g : Nat} {cs : List Value} {t : TypeId} (h : Row w g cs t) : Row w.drew g cs t := h
theorem Row.grown {w w' : World} {g : Nat} {cs : List Value} {t : TypeId} {k : Option Nat} (h : Row w g cs t) (hg : w.grownBy w' k) (hk : some g ≠ k) : Row w' g cs t := by
  unfold Row
  rw [hg.block g h.lt hk]; exact h
theorem Row.setCell {w : World} {g : Nat} {cs : List Value} {t : TypeId} (h : Row w g cs t) (i : Nat) (v : Value) : Row (w.setCell ⟨g, i, none⟩ v) g (cs.set i v) t := by
  have := setCell_eq_setRow w g i cs.toArray t (0, 0) v h
  unfold Row
  rw [this, setRow_heap w g _ _ t _ h]
  simp
theorem grown_setCell (w : World) (g i : Nat) (v : Value) : w.grownBy (w.setCell ⟨g, i, none⟩ v) (some g) :=
  ⟨rfl, rfl, rfl, by simp [World.setCell], fun k _ hk => Below.heap_setCell _ _ _ _ (fun e => hk (by rw [e]))⟩
theorem grown_trans {w w1 w2 : World} {k : Option Nat} (h : w.grownBy w1 k) (h' : w1.grownBy w2 k) : w.grownBy w2 k :=
  ⟨h'.os.trans h.os, h'.tape.trans h.tape, h'.output.trans h.output, Nat.le_trans h.size h'.size, fun i hi hk => (h'.block i (Nat.lt_of_lt_of_le hi h.size) hk).trans (h.block i hi hk)⟩

theorem splice_cons {α : Type} (cs : List α) (o : Nat) (v : α) (r : List α) (h : o < cs.length) : splice (cs.set o v) (o + 1) r = splice cs o (v :: r) := by
  unfold splice
  rw [List.take_set, List.drop_set]
  simp only [List.length_cons]
  rw [if_pos (by omega)]
  have e : o + 1 + r.length = o + (r.length + 1) := by omega
  rw [e]
  have h2 : (cs.take (o + 1)).set o v = cs.take o ++ [v] := by
    rw [List.take_succ_eq_append_getElem h, List.set_append]
    simp [Nat.min_eq_left (Nat.le_of_lt h)]
  rw [h2]; simp

/-- Stores one behind the other into a row. -/
theorem row_setCells (g : Nat) (t : TypeId) : ∀ (vs : List Value) (o : Nat) (cs : List Value) (w : World), Row w g cs t → o + vs.length ≤ cs.length → Row (w.setCells g o vs) g (splice cs o vs) t ∧ w.grownBy (w.setCells g o vs) (some g)
  | [], o, cs, w, h, _ => by
    refine ⟨?_, World.grownBy.refl _ _⟩
    show Row w g (splice cs o []) t
    simpa [splice] using h
  | v :: r, o, cs, w, h, hl => by
    rw [World.setCells]
    simp only [List.length_cons] at hl
    obtain ⟨h1, h2⟩ := row_setCells g t r (o + 1) (cs.set o v) (w.setCell ⟨g, o, none⟩ v) (h.setCell o v) (by simp; omega)
    rw [splice_cons cs o v r (by omega)] at h1
    exact ⟨h1, grown_trans (grown_setCell w g o v) h2⟩

/-- The bytes of a word of four, of a word of eight, the greatest first. -/
def be4 (v : Int) : List Value := [.int .u8 (v / 16777216), .int .u8 (v / 65536 % 256), .int .u8 (v / 256 % 256), .int .u8 (v % 256)]
def be8 (v : Int) : List Value := [.int .u8 (v / 72057594037927936), .int .u8 (v / 281474976710656 % 256), .int .u8 (v / 1099511627776 % 256), .int .u8 (v / 4294967296 % 256),
  .int .u8 (v / 16777216 % 256), .int .u8 (v / 65536 % 256), .int .u8 (v / 256 % 256), .int .u8 (v % 256)]

set_option maxHeartbeats 400000 in
/-- (bigEndian).PutUint32 into a row. -/
theorem put32 (g o n c : Nat) (t : TypeId) (v : Int) (cs : List Value) (w : World) (hn : 4 ≤ n) (h0 : 0 ≤ v) (h1 : v < 4294967296) (hr : Row w g cs t) (ho : o + 4 ≤ cs.length) :
    Calls Try.prog 47 #[.agg #[], .slice (some ⟨g, o, none⟩) n c, .int .u32 v] w fun e w' => e = .returned (.tuple #[]) ∧ Row w' g (splice cs o (be4 v)) t ∧ w.grownBy w' (some g) := by
  obtain ⟨e1, e2⟩ := row_setCells g t (be4 v) o cs w hr (by simpa [be4] using ho)
  have hg := hr.lt
  have c0 := hr.cell' o (by omega)
  have c1 := hr.cell' (o + 1) (by omega)
  have c2 := hr.cell' (o + 2) (by omega)
  have c3 := hr.cell' (o + 3) (by omega)
  have f0 := hr.free o
  have f1 := hr.free (o + 1)
  have f2 := hr.free (o + 2)
  have f3 := hr.free (o + 3)
  have E1 : Hid _ := e1
  have E2 : Hid _ := e2
  have b0 : (0 : Int) < n := by omega
  have b1 : (1 : Int) < n := by omega
  have b2 : (2 : Int) < n := by omega
  have b3 : (3 : Int) < n := by omega
  clear hr e1 e2
  generalize cs[o] = x0 at c0
  generalize cs[o + 1] = x1 at c1
  generalize cs[o + 2] = x2 at c2
  generalize cs[o + 3] = x3 at c3
  go_enter Try.func47, Try.ntmps47
  go_wp2
  go_end0
  refine ⟨rfl, ?_, ?_⟩
  · exact Row.grown E1.out (World.grownBy_alloc _ _ none) (by simp)
  · exact grown_trans E2.out (World.grownBy_alloc _ _ _)

set_option maxHeartbeats 400000 in
/-- (bigEndian).PutUint64 into a row. -/
theorem put64 (g o n c : Nat) (t : TypeId) (v : Int) (cs : List Value) (w : World) (hn : 8 ≤ n) (h0 : 0 ≤ v) (h1 : v < 18446744073709551616) (hr : Row w g cs t) (ho : o + 8 ≤ cs.length) :
    Calls Try.prog 48 #[.agg #[], .slice (some ⟨g, o, none⟩) n c, .int .u64 v] w fun e w' => e = .returned (.tuple #[]) ∧ Row w' g (splice cs o (be8 v)) t ∧ w.grownBy w' (some g) := by
  obtain ⟨e1, e2⟩ := row_setCells g t (be8 v) o cs w hr (by simpa [be8] using ho)
  have hg := hr.lt
  have c0 := hr.cell' o (by omega)
  have c1 := hr.cell' (o + 1) (by omega)
  have c2 := hr.cell' (o + 2) (by omega)
  have c3 := hr.cell' (o + 3) (by omega)
  have c4 := hr.cell' (o + 4) (by omega)
  have c5 := hr.cell' (o + 5) (by omega)
  have c6 := hr.cell' (o + 6) (by omega)
  have c7 := hr.cell' (o + 7) (by omega)
  have f0 := hr.free o
  have f1 := hr.free (o + 1)
  have f2 := hr.free (o + 2)
  have f3 := hr.free (o + 3)
  have f4 := hr.free (o + 4)
  have f5 := hr.free (o + 5)
  have f6 := hr.free (o + 6)
  have f7 := hr.free (o + 7)
  have E1 : Hid _ := e1
  have E2 : Hid _ := e2
  have b0 : (0 : Int) < n := by omega
  have b1 : (1 : Int) < n := by omega
  have b2 : (2 : Int) < n := by omega
  have b3 : (3 : Int) < n := by omega
  have b4 : (4 : Int) < n := by omega
  have b5 : (5 : Int) < n := by omega
  have b6 : (6 : Int) < n := by omega
  have b7 : (7 : Int) < n := by omega
  clear hr e1 e2
  generalize cs[o] = x0 at c0
  generalize cs[o + 1] = x1 at c1
  generalize cs[o + 2] = x2 at c2
  generalize cs[o + 3] = x3 at c3
  generalize cs[o + 4] = x4 at c4
  generalize cs[o + 5] = x5 at c5
  generalize cs[o + 6] = x6 at c6
  generalize cs[o + 7] = x7 at c7
  go_enter Try.func48, Try.ntmps48
  go_wp2
  go_end0
  refine ⟨rfl, ?_, ?_⟩
  · exact Row.grown E1.out (World.grownBy_alloc _ _ none) (by simp)
  · exact grown_trans E2.out (World.grownBy_alloc _ _ _)

theorem row_new (w : World) (cs : List Value) (t g : Nat) (hg : g = w.heap.size) : Row (w.alloc (.cells cs.toArray t)) g cs t := by
  subst hg; exact heap_alloc_new w _
theorem Row.alloc {w : World} {g : Nat} {cs : List Value} {t : TypeId} (h : Row w g cs t) (o : Obj) : Row (w.alloc o) g cs t := by
  unfold Row
  rw [heap_alloc_old w o h.lt]; exact h

theorem size25 : (Try.prog.info? 25).map (·.size) = some 20 := by kernel_rfl
theorem size22 : (Try.prog.info? 22).map (·.size) = some 20 := by kernel_rfl
/-- Twenty cells, each one cell wide. -/
def Id20 (cs : List Value) : Prop := cs.length = 20 ∧ ∀ v ∈ cs, v.oneCell' = true
theorem Id20.size25 {cs : List Value} (h : Id20 cs) : (Try.prog.info? 25).map (·.size) = some cs.toArray.size := by
  rw [Qxb6614219a.size25]; simp [h.1]
theorem Id20.size22 {cs : List Value} (h : Id20 cs) : (Try.prog.info? 22).map (·.size) = some cs.toArray.size := by
  rw [Qxb6614219a.size22]; simp [h.1]
theorem Id20.all {cs : List Value} (h : Id20 cs) : cs.toArray.all (·.oneCell') = true := all_oneCell_toArray h.2
theorem Row.setRow {w : World} {g : Nat} {cs ds : List Value} {t : TypeId} (h : Row w g cs t) : Row (w.setRow g ds.toArray) g ds t := setRow_heap w g _ _ t _ h
theorem Row.setRow_other {w : World} {g k : Nat} {cs : List Value} {t : TypeId} (h : Row w g cs t) (ds : Array Value) (hk : g ≠ k) : Row (w.setRow k ds) g cs t := by
  unfold Row; rw [Go.setRow_other w k g ds hk]; exact h

/-- A new ID's cells. -/
def zeros20 : List Value := List.replicate 20 (.int .u8 0)

set_option maxHeartbeats 400000 in
theorem id_any (hi mid low : Int) (w : World) (h0 : 0 ≤ hi) (h1 : hi < 4294967296) (h2 : 0 ≤ mid) (h3 : mid < 18446744073709551616) (h4 : 0 ≤ low) (h5 : low < 18446744073709551616) :
    Calls Try.prog 38 #[.agg #[.int .u32 hi, .int .u64 mid, .int .u64 low]] w fun e w' => e = .returned (.agg (be4 hi ++ be8 mid ++ be8 low).toArray) ∧ Below w.heap.size w w' := by
  go_enter Try.func38, Try.ntmps38
  go_upto_region 1 with fail
  go_cut [3] (fun p W => p = .pointer (some ⟨w.heap.size + 2, 0, none⟩) ∧ Row W w.heap.size [.int .u32 hi, .int .u64 mid, .int .u64 low] 108 ∧ Row W (w.heap.size + 1) zeros20 25 ∧ Row W (w.heap.size + 2) zeros20 25 ∧ Below w.heap.size w W)
  case first =>
    go_wp2
    go_meet
    case rel =>
      refine ⟨rfl, ?_, ?_, ?_, ?_⟩
      · exact ((row_new _ _ _ _ rfl).alloc _).alloc _
      · exact (row_new _ zeros20 _ _ (by simp)).alloc _
      · exact (row_new _ zeros20 _ _ (by simp))
      · exact (((Below.refl _ _).alloc (Nat.le_refl _) _).alloc (by simp) _).alloc (by simp; omega) _
  case rest =>
    obtain ⟨rfl, r0, r1, r2, hb⟩ := hcut
    have hh0 := r0.cell 0
    have hh1 := r0.cell 1
    have hh2 := r0.cell 2
    simp at hh0 hh1 hh2
    go_upto_region 2 with fail
    go_cut [] (fun W => Row W w.heap.size [.int .u32 hi, .int .u64 mid, .int .u64 low] 108 ∧ Row W (w.heap.size + 1) zeros20 25 ∧ Row W (w.heap.size + 2) (splice zeros20 0 (be4 hi)) 25 ∧ Below w.heap.size w W)
    case first =>
      go_region_with (go_at_call 47; refine (put32 (w.heap.size + 2) 0 4 20 25 hi zeros20 _ (by omega) h0 h1 ?_ (by decide)).mono ?_; exact r2.drew; rintro e w1 ⟨rfl, hr1, hg1⟩)
      all_goals (go_wp2_with fail; go_meet)
      all_goals exact ⟨r0.drew.grown hg1 (by simp), r1.drew.grown hg1 (by simp), hr1, (hb.drew).grown hg1 (by simpa using hb.size) (by simp)⟩
    case rest =>
      clear r0 r1 r2 hb hh0 hh1 hh2
      obtain ⟨r0, r1, r2, hb⟩ := hcut
      have hh0 := r0.cell 0
      have hh1 := r0.cell 1
      have hh2 := r0.cell 2
      simp at hh0 hh1 hh2
      go_upto_region 3 with fail
      go_cut [] (fun W => Row W w.heap.size [.int .u32 hi, .int .u64 mid, .int .u64 low] 108 ∧ Row W (w.heap.size + 1) zeros20 25 ∧ Row W (w.heap.size + 2) (splice (splice zeros20 0 (be4 hi)) 4 (be8 mid)) 25 ∧ Below w.heap.size w W)
      case first =>
        go_region_with (go_at_call 48; refine (put64 (w.heap.size + 2) 4 8 16 25 mid (splice zeros20 0 (be4 hi)) _ (by omega) h2 h3 ?_ (by simp [splice, zeros20, be4])).mono ?_; exact r2.drew; rintro e w1 ⟨rfl, hr1, hg1⟩)
        all_goals (go_wp2_with fail; go_meet)
        all_goals exact ⟨r0.drew.grown hg1 (by simp), r1.drew.grown hg1 (by simp), hr1, (hb.drew).grown hg1 (by simpa using hb.size) (by simp)⟩
      case rest =>
        clear r0 r1 r2 hb hh0 hh1 hh2
        obtain ⟨r0, r1, r2, hb⟩ := hcut
        have hh0 := r0.cell 0
        have hh1 := r0.cell 1
        have hh2 := r0.cell 2
        simp at hh0 hh1 hh2
        go_upto_region 4 with fail
        go_cut [] (fun W => Row W (w.heap.size + 1) zeros20 25 ∧ Row W (w.heap.size + 2) (be4 hi ++ be8 mid ++ be8 low) 25 ∧ Below w.heap.size w W)
        case first =>
          go_region_with (go_at_call 48; refine (put64 (w.heap.size + 2) 12 8 8 25 low (splice (splice zeros20 0 (be4 hi)) 4 (be8 mid)) _ (by omega) h4 h5 ?_ (by simp [splice, zeros20, be4, be8])).mono ?_; exact r2.drew; rintro e w1 ⟨rfl, hr1, hg1⟩)
          all_goals (go_wp2_with fail; go_meet)
          all_goals exact ⟨r1.drew.grown hg1 (by simp), by simpa [splice, zeros20, be4, be8] using hr1, (hb.drew).grown hg1 (by simpa using hb.size) (by simp)⟩
        case rest =>
          clear r0 r1 r2 hb hh0 hh1 hh2
          obtain ⟨r1, r2, hb⟩ := hcut
          have hI : Id20 (be4 hi ++ be8 mid ++ be8 low) := ⟨by simp [be4, be8], by simp [be4, be8, Value.oneCell']⟩
          obtain ⟨cs, hcs⟩ : ∃ cs, cs = be4 hi ++ be8 mid ++ be8 low := ⟨_, rfl⟩
          rw [← hcs] at r2 hI
          have HCS : Hid _ := hcs
          clear hcs
          go_wp2_with (first
            | refine wpList_load_row rfl 25 _ rfl (w.heap.size + 2) rfl 25 cs.toArray (0, 0) _ r2 Try.underlying25 rfl hI.size25 ?_
            | refine wpList_store_row rfl 25 _ _ rfl (w.heap.size + 1) cs.toArray rfl rfl 25 _ r1 hI.size25 (by simp [zeros20, hI.1]) hI.all ?_)
          refine bodyPost_ret (v := .agg cs.toArray) (results_cell_row Try.results38 _ _ (w.heap.size + 1) 25 cs.toArray (0, 0) _ rfl r1.setRow Try.underlying25 rfl hI.size25) rfl ⟨?_, below_setRow hb (by omega) _⟩
          rw [HCS.out]
end Go.Proofs.Qxb6614219a
