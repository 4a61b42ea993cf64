/-
  AN ARRAY OF SEVEN NUMBERS THAT CAME IN, opened; and what wrapping subtraction does.
-/
import Derived.Test.Qxb6619538aArr
import Derived.ProofKit
import Derived.OpenShut
namespace Go.Proofs.Qxb6619538a
open Go.ChangeShapes Go.WideShapes Go.ChangeAt Go.RowKit
set_option linter.unusedVariables false

theorem list7 {α : Type} (l : List α) (h : (⟨l⟩ : Array α).size = 7) : ∃ a b c d e f g, l = [a, b, c, d, e, f, g] := by
  match l, h with
  | [a, b, c, d, e, f, g], _ => exact ⟨a, b, c, d, e, f, g, rfl⟩

theorem Try.cells22 : Try.prog.cellsOf 22 = 7 := by kernel_rfl

/-- In range. -/
def Fit (c : Nat → Int) : Prop := ∀ p, p < 7 → -9223372036854775808 ≤ c p ∧ c p ≤ 9223372036854775807

theorem open_arr {H : Type} {enc : TypeId × Value → H} {W : World} {base : Nat} {v : Value} {d : DataW H} {p : List MemPlace} {sp : Nat → Bool} {held : Bool}
    (hv : Value.okWide Try.prog W .any base 22 v) (h0 : DataW.Trod enc Try.prog W 0 sp held 22 v d p) : ∃ c : Nat → Int, v = av c ∧ Fit c := by
  obtain ⟨cs, rfl, hsz, _⟩ : ∃ cs, v = .agg cs ∧ cs.size = Try.prog.cellsOf 22 ∧ Row.okWide Try.prog W .any base 22 cs := by
    simpa [Value.okWide, Try.underlying22] using hv
  rw [Try.cells22] at hsz
  obtain ⟨l⟩ := cs
  obtain ⟨c0, c1, c2, c3, c4, c5, c6, rfl⟩ := list7 l hsz
  obtain ⟨fuel, hf⟩ := h0
  obtain ⟨xs, m, _, _, _, hxl, hx⟩ := DataW.trod_array Try.underlying22 hf
  have hc : ∀ i, i < 7 → ∃ x : Int, [c0, c1, c2, c3, c4, c5, c6][i]? = some (.int .i64 x) ∧ (Lit.int .i64 x).wf = true := by
    intro i hi
    have h := hx i hi
    rw [List.getElem?_eq_getElem (by omega), Try.cells3] at h
    obtain ⟨x, e, _, wf⟩ := DataW.trod_int Try.underlying3 h
    refine ⟨x, ?_, wf⟩
    match i, hi with
    | 0, _ | 1, _ | 2, _ | 3, _ | 4, _ | 5, _ | 6, _ => simpa [Value.cells] using e
  obtain ⟨x0, e0, f0⟩ := hc 0 (by omega)
  obtain ⟨x1, e1, f1⟩ := hc 1 (by omega)
  obtain ⟨x2, e2, f2⟩ := hc 2 (by omega)
  obtain ⟨x3, e3, f3⟩ := hc 3 (by omega)
  obtain ⟨x4, e4, f4⟩ := hc 4 (by omega)
  obtain ⟨x5, e5, f5⟩ := hc 5 (by omega)
  obtain ⟨x6, e6, f6⟩ := hc 6 (by omega)
  simp at e0 e1 e2 e3 e4 e5 e6
  subst e0 e1 e2 e3 e4 e5 e6
  refine ⟨fun i => [x0, x1, x2, x3, x4, x5, x6].getD i 0, rfl, fun i hi => ?_⟩
  match i, hi with
  | 0, _ => exact bounds_i64 f0
  | 1, _ => exact bounds_i64 f1
  | 2, _ => exact bounds_i64 f2
  | 3, _ => exact bounds_i64 f3
  | 4, _ => exact bounds_i64 f4
  | 5, _ => exact bounds_i64 f5
  | 6, _ => exact bounds_i64 f6

theorem wrap_back (c d : Int) (h : -9223372036854775808 ≤ d ∧ d ≤ 9223372036854775807) : wrap64 (c - wrap64 (c - d)) = d := by unfold wrap64; omega
theorem wrap_twice (c d e : Int) : wrap64 (c - wrap64 (wrap64 (c - d) - e)) = wrap64 (d + e) := by unfold wrap64; omega
theorem wrap_none (c : Int) : wrap64 (c - c) = 0 := by unfold wrap64; omega
theorem wrap_zero (c : Int) (h : -9223372036854775808 ≤ c ∧ c ≤ 9223372036854775807) : wrap64 (c - 0) = c := by unfold wrap64; omega

end Go.Proofs.Qxb6619538a
