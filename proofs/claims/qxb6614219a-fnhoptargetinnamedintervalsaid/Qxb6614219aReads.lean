import Derived.Test.Qxb6614219aField
import Derived.Lib.EndianBits
namespace Go.Proofs.Qxb6614219a
open Go.RowKit
theorem u32_or (b0 b1 b2 b3 : Nat) (h0 : b0 < 256) (h1 : b1 < 256) (h2 : b2 < 256) (h3 : b3 < 256) :
    bits BinOp.or IntKind.u32 (bits BinOp.or IntKind.u32 (bits BinOp.or IntKind.u32 (b3 : Int) ((b2 : Int) * 256)) ((b1 : Int) * 65536)) ((b0 : Int) * 16777216) = ((b3 + b2 * 256 + b1 * 65536 + b0 * 16777216 : Nat) : Int) := by
  simp (disch := omega) only [Go.u32_or8, Go.u32_or16, Go.u32_or24]
  omega
set_option maxHeartbeats 1000000 in
theorem u32_at (g o n c : Nat) (b0 b1 b2 b3 : Nat) (w : World) (hn : 4 ≤ n) (h0 : b0 < 256) (h1 : b1 < 256) (h2 : b2 < 256) (h3 : b3 < 256)
    (c0 : w.cell? ⟨g, o, none⟩ = some (.int .u8 b0)) (c1 : w.cell? ⟨g, o + 1, none⟩ = some (.int .u8 b1)) (c2 : w.cell? ⟨g, o + 2, none⟩ = some (.int .u8 b2)) (c3 : w.cell? ⟨g, o + 3, none⟩ = some (.int .u8 b3)) :
    Calls Try.prog 44 #[.agg #[], .slice (some ⟨g, o, none⟩) n c] w fun e w' => e = .returned (.int .u32 ((b3 + b2 * 256 + b1 * 65536 + b0 * 16777216 : Nat) : Int)) ∧ Below w.heap.size w w' := by
  rw [← u32_or b0 b1 b2 b3 h0 h1 h2 h3]
  have hg : g < w.heap.size := World.block_lt_of_cell? _ _ c0
  have i0 : (0 : Int) < n := by omega
  have i1 : (1 : Int) < n := by omega
  have i2 : (2 : Int) < n := by omega
  have i3 : (3 : Int) < n := by omega
  go_enter Try.func44, Try.ntmps44
  go_wp2
  go_quiet (fail)
  go_wp2
  go_ret
  exact ⟨rfl, below_drewN ((Below.refl _ _).alloc (Nat.le_refl _) _) _⟩
theorem u64_or (b0 b1 b2 b3 b4 b5 b6 b7 : Nat) (h0 : b0 < 256) (h1 : b1 < 256) (h2 : b2 < 256) (h3 : b3 < 256) (h4 : b4 < 256) (h5 : b5 < 256) (h6 : b6 < 256) (h7 : b7 < 256) :
    bits BinOp.or IntKind.u64 (bits BinOp.or IntKind.u64 (bits BinOp.or IntKind.u64 (bits BinOp.or IntKind.u64 (bits BinOp.or IntKind.u64 (bits BinOp.or IntKind.u64 (bits BinOp.or IntKind.u64 (b7 : Int) ((b6 : Int) * 256)) ((b5 : Int) * 65536)) ((b4 : Int) * 16777216))
      ((b3 : Int) * 4294967296)) ((b2 : Int) * 1099511627776)) ((b1 : Int) * 281474976710656)) ((b0 : Int) * 72057594037927936) = ((b7 + b6 * 256 + b5 * 65536 + b4 * 16777216 + b3 * 4294967296 + b2 * 1099511627776 + b1 * 281474976710656 + b0 * 72057594037927936 : Nat) : Int) := by
  simp (disch := omega) only [Go.u64_or8, Go.u64_or16, Go.u64_or24, Go.u64_or32, Go.u64_or40, Go.u64_or48, Go.u64_or56]
  omega
set_option maxHeartbeats 1000000 in
theorem u64_at (g o n c : Nat) (b0 b1 b2 b3 b4 b5 b6 b7 : Nat) (w : World) (hn : 8 ≤ n) (h0 : b0 < 256) (h1 : b1 < 256) (h2 : b2 < 256) (h3 : b3 < 256) (h4 : b4 < 256) (h5 : b5 < 256) (h6 : b6 < 256) (h7 : b7 < 256)
    (c0 : w.cell? ⟨g, o, none⟩ = some (.int .u8 b0)) (c1 : w.cell? ⟨g, o + 1, none⟩ = some (.int .u8 b1)) (c2 : w.cell? ⟨g, o + 2, none⟩ = some (.int .u8 b2)) (c3 : w.cell? ⟨g, o + 3, none⟩ = some (.int .u8 b3))
    (c4 : w.cell? ⟨g, o + 4, none⟩ = some (.int .u8 b4)) (c5 : w.cell? ⟨g, o + 5, none⟩ = some (.int .u8 b5)) (c6 : w.cell? ⟨g, o + 6, none⟩ = some (.int .u8 b6)) (c7 : w.cell? ⟨g, o + 7, none⟩ = some (.int .u8 b7)) :
    Calls Try.prog 45 #[.agg #[], .slice (some ⟨g, o, none⟩) n c] w fun e w' => e = .returned (.int .u64 ((b7 + b6 * 256 + b5 * 65536 + b4 * 16777216 + b3 * 4294967296 + b2 * 1099511627776 + b1 * 281474976710656 + b0 * 72057594037927936 : Nat) : Int)) ∧ Below w.heap.size w w' := by
  rw [← u64_or b0 b1 b2 b3 b4 b5 b6 b7 h0 h1 h2 h3 h4 h5 h6 h7]
  have hg : g < w.heap.size := World.block_lt_of_cell? _ _ c0
  have i0 : (0 : Int) < n := by omega
  have i1 : (1 : Int) < n := by omega
  have i2 : (2 : Int) < n := by omega
  have i3 : (3 : Int) < n := by omega
  have i4 : (4 : Int) < n := by omega
  have i5 : (5 : Int) < n := by omega
  have i6 : (6 : Int) < n := by omega
  have i7 : (7 : Int) < n := by omega
  go_enter Try.func45, Try.ntmps45
  go_wp2
  go_quiet (fail)
  go_wp2
  go_ret
  exact ⟨rfl, below_drewN ((Below.refl _ _).alloc (Nat.le_refl _) _) _⟩

/-- The three words of N. -/
def hiW (N : Nat) : Nat := N / 340282366920938463463374607431768211456 % 4294967296
def midW (N : Nat) : Nat := N / 18446744073709551616 % 18446744073709551616
def lowW (N : Nat) : Nat := N % 18446744073709551616

theorem byteAt_lt (N i : Nat) : byteAt N i < 256 := Nat.mod_lt _ (by decide)
theorem idL_cell {W : World} {g t N : Nat} (hr : Row W g (idL N) t) (i : Nat) (hi : i < 20) : W.cell? ⟨g, i, none⟩ = some (.int .u8 ((byteAt N i : Nat) : Int)) := by
  rw [hr.cell, idL_get N i hi]

theorem get_hi {W : World} {g t N c : Nat} (hr : Row W g (idL N) t) :
    Calls Try.prog 44 #[.agg #[], .slice (some ⟨g, 0, none⟩) 4 c] W fun e w' => e = .returned (.int .u32 (hiW N : Nat)) ∧ Below W.heap.size W w' := by
  have := u32_at g 0 4 c _ _ _ _ W (by decide) (byteAt_lt N 0) (byteAt_lt N 1) (byteAt_lt N 2) (byteAt_lt N 3) (idL_cell hr 0 (by decide)) (idL_cell hr 1 (by decide)) (idL_cell hr 2 (by decide)) (idL_cell hr 3 (by decide))
  have e : byteAt N 3 + byteAt N 2 * 256 + byteAt N 1 * 65536 + byteAt N 0 * 16777216 = hiW N := by
    simp only [byteAt, hiW, Nat.reduceSub, Nat.reducePow]; omega
  rw [e] at this
  exact this
theorem get_mid {W : World} {g t N c : Nat} (hr : Row W g (idL N) t) :
    Calls Try.prog 45 #[.agg #[], .slice (some ⟨g, 4, none⟩) 8 c] W fun e w' => e = .returned (.int .u64 (midW N : Nat)) ∧ Below W.heap.size W w' := by
  have := u64_at g 4 8 c _ _ _ _ _ _ _ _ W (by decide) (byteAt_lt N 4) (byteAt_lt N 5) (byteAt_lt N 6) (byteAt_lt N 7) (byteAt_lt N 8) (byteAt_lt N 9) (byteAt_lt N 10) (byteAt_lt N 11)
    (idL_cell hr 4 (by decide)) (idL_cell hr 5 (by decide)) (idL_cell hr 6 (by decide)) (idL_cell hr 7 (by decide)) (idL_cell hr 8 (by decide)) (idL_cell hr 9 (by decide)) (idL_cell hr 10 (by decide)) (idL_cell hr 11 (by decide))
  have e : byteAt N 11 + byteAt N 10 * 256 + byteAt N 9 * 65536 + byteAt N 8 * 16777216 + byteAt N 7 * 4294967296 + byteAt N 6 * 1099511627776 + byteAt N 5 * 281474976710656 + byteAt N 4 * 72057594037927936 = midW N := by
    simp only [byteAt, midW, Nat.reduceSub, Nat.reducePow]; omega
  rw [e] at this
  exact this
theorem get_low {W : World} {g t N c : Nat} (hr : Row W g (idL N) t) :
    Calls Try.prog 45 #[.agg #[], .slice (some ⟨g, 12, none⟩) 8 c] W fun e w' => e = .returned (.int .u64 (lowW N : Nat)) ∧ Below W.heap.size W w' := by
  have := u64_at g 12 8 c _ _ _ _ _ _ _ _ W (by decide) (byteAt_lt N 12) (byteAt_lt N 13) (byteAt_lt N 14) (byteAt_lt N 15) (byteAt_lt N 16) (byteAt_lt N 17) (byteAt_lt N 18) (byteAt_lt N 19)
    (idL_cell hr 12 (by decide)) (idL_cell hr 13 (by decide)) (idL_cell hr 14 (by decide)) (idL_cell hr 15 (by decide)) (idL_cell hr 16 (by decide)) (idL_cell hr 17 (by decide)) (idL_cell hr 18 (by decide)) (idL_cell hr 19 (by decide))
  have e : byteAt N 19 + byteAt N 18 * 256 + byteAt N 17 * 65536 + byteAt N 16 * 16777216 + byteAt N 15 * 4294967296 + byteAt N 14 * 1099511627776 + byteAt N 13 * 281474976710656 + byteAt N 12 * 72057594037927936 = lowW N := by
    simp only [byteAt, lowW, Nat.reduceSub, Nat.reducePow]; omega
  rw [e] at this
  exact this
end Go.Proofs.Qxb6614219a
