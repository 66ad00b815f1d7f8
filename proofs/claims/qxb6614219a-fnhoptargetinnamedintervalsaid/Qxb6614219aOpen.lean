import Derived.Test.Qxb6614219aNums
import Derived.ProofKit
import Derived.OpenShut
namespace Go.Proofs.Qxb6614219a
open Go.ChangeShapes Go.WideShapes Go.ChangeAt Go.RowKit

theorem bytes_make (f : Nat → Nat) (h : ∀ i, f i < 256) : ∃ N, N < 2 ^ 160 ∧ ∀ i, i < 20 → byteAt N i = f i := by
  have h0 := h 0; have h1 := h 1; have h2 := h 2; have h3 := h 3; have h4 := h 4; have h5 := h 5; have h6 := h 6; have h7 := h 7; have h8 := h 8; have h9 := h 9
  have h10 := h 10; have h11 := h 11; have h12 := h 12; have h13 := h 13; have h14 := h 14; have h15 := h 15; have h16 := h 16; have h17 := h 17; have h18 := h 18; have h19 := h 19
  refine ⟨f 0 * 256 ^ 19 + f 1 * 256 ^ 18 + f 2 * 256 ^ 17 + f 3 * 256 ^ 16 + f 4 * 256 ^ 15 + f 5 * 256 ^ 14 + f 6 * 256 ^ 13 + f 7 * 256 ^ 12 + f 8 * 256 ^ 11 + f 9 * 256 ^ 10 + f 10 * 256 ^ 9 + f 11 * 256 ^ 8 + f 12 * 256 ^ 7 + f 13 * 256 ^ 6
    + f 14 * 256 ^ 5 + f 15 * 256 ^ 4 + f 16 * 256 ^ 3 + f 17 * 256 ^ 2 + f 18 * 256 + f 19, ?_, ?_⟩
  · simp only [Nat.reducePow]; omega
  · intro i hi
    have hi' : i = 0 ∨ i = 1 ∨ i = 2 ∨ i = 3 ∨ i = 4 ∨ i = 5 ∨ i = 6 ∨ i = 7 ∨ i = 8 ∨ i = 9 ∨ i = 10 ∨ i = 11 ∨ i = 12 ∨ i = 13 ∨ i = 14 ∨ i = 15 ∨ i = 16 ∨ i = 17 ∨ i = 18 ∨ i = 19 := by omega
    unfold byteAt
    rcases hi' with rfl | rfl | rfl | rfl | rfl | rfl | rfl | rfl | rfl | rfl | rfl | rfl | rfl | rfl | rfl | rfl | rfl | rfl | rfl | rfl <;> (simp only [Nat.reducePow, Nat.reduceSub]; omega)

def numOf : Value → Nat
  | .int _ n => n.toNat
  | _ => 0

theorem cells22 : Try.prog.cellsOf 22 = 20 := by kernel_rfl
theorem cells5 : Try.prog.cellsOf 5 = 1 := by kernel_rfl

set_option maxRecDepth 100000 in
/-- A [20]byte that came in: it is the twenty bytes of a number. -/
theorem open20 {H : Type} {enc : TypeId × Value → H} {W : World} {base b0 : Nat} {sp : Nat → Bool} {held : Bool} {v : Value} {d : DataW H} {p : List MemPlace}
    (hok : Value.okWide Try.prog W .any base 22 v) (h : DataW.Trod enc Try.prog W b0 sp held 22 v d p) : ∃ N, N < 2 ^ 160 ∧ v = .agg (idL N).toArray := by
  obtain ⟨cs, rfl, hsz, -⟩ : ∃ cs, v = .agg cs ∧ cs.size = Try.prog.cellsOf 22 ∧ Go.Row.okWide Try.prog W .any base 22 cs := by
    simpa [Value.okWide, Try.underlying22] using hok
  rw [cells22] at hsz
  obtain ⟨fuel, hf⟩ := h
  obtain ⟨xs, m, _, _, _, hl, hel⟩ := DataW.trod_array Try.underlying22 hf
  have key : ∀ i, i < 20 → ∃ n, cs[i]? = some (.int .u8 n) ∧ 0 ≤ n ∧ n < 256 := by
    intro i hi
    have h1 := hel i hi
    rw [List.getElem?_eq_getElem (by omega)] at h1
    obtain ⟨n, e, -, wf⟩ := DataW.trod_int Try.underlying5 h1
    rw [cells5, Nat.mul_one] at e
    have e2 : (cs.toList.drop i)[0]? = some (.int .u8 n) := by
      have := congrArg (fun l : List Value => l[0]?) e
      simpa [Value.cells, List.getElem?_take] using this
    refine ⟨n, by simpa using e2, ?_⟩
    simp [Lit.wf, IntKind.min, IntKind.max, IntKind.signed, IntKind.bits] at wf
    omega
  obtain ⟨N, hN, hb⟩ := bytes_make (fun i => if i < 20 then numOf (cs[i]?.getD undef) else 0) (fun i => by
    split
    · rename_i hi
      obtain ⟨n, e, h0, h1⟩ := key i hi
      rw [e]; simp [numOf]; omega
    · omega)
  refine ⟨N, hN, ?_⟩
  congr 1
  apply Array.ext_getElem?
  intro i
  by_cases hi : i < 20
  · obtain ⟨n, e, h0, h1⟩ := key i hi
    have hbi := hb i hi
    simp only [hi, if_true, e, Option.getD_some, numOf] at hbi
    rw [e, List.getElem?_toArray, idL_get N i hi, hbi, Int.toNat_of_nonneg h0]
  · rw [Array.getElem?_eq_none (by omega), Array.getElem?_eq_none (by simp [idL_len]; omega)]
end Go.Proofs.Qxb6614219a
