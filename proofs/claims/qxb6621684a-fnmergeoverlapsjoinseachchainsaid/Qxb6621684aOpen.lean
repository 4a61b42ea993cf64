/-
  A SLICE OF CANDIDATES THAT CAME IN, OPENED.
-/
import Derived.Test.Qxb6621684aRows
import Derived.Test.Qxb6621684aSrc
import Derived.Deep.Slices
import Derived.ProofKit
namespace Go.Proofs.Qxb6621684a
open Go.ChangeShapes Go.WideShapes Go.ChangeAt Go.RowKit

theorem cells34 : Try.prog.cellsOf 34 = 6 := by kernel_rfl
theorem cells9 : Try.prog.cellsOf 9 = 1 := by kernel_rfl
theorem cells3 : Try.prog.cellsOf 3 = 1 := by kernel_rfl

theorem six_list {cs : List Value} (h : cs.length = 6) : ∃ c0 c1 c2 c3 c4 c5, cs = [c0, c1, c2, c3, c4, c5] := by
  match cs, h with
  | [c0, c1, c2, c3, c4, c5], _ => exact ⟨c0, c1, c2, c3, c4, c5, rfl⟩

/-- One candidate's cells, out of its reading. -/
theorem open_cand {H : Type} {enc : TypeId × Value → H} {w : World} {base : Nat} {spare : Nat → Bool} {held : Bool} {fuel : Nat} {cs : List Value} {x : DataW H × List MemPlace}
    (h : DataW.trod enc Try.prog w base spare held fuel 34 cs = some x) : ∃ c : Cd, cs = cdCells c := by
  obtain ⟨xs, n, _, _, hl, hlen, hf⟩ := DataW.trod_struct Try.underlying34 h
  rw [cells34] at hl
  obtain ⟨c0, c1, c2, c3, c4, c5, rfl⟩ := six_list hl
  have hx : xs.length = 6 := hlen
  have f0 : DataW.trod enc Try.prog w base spare held n 9 (([c0, c1, c2, c3, c4, c5].drop 0).take (Try.prog.cellsOf 9)) = xs[0]? := hf 0 _ rfl
  have f1 : DataW.trod enc Try.prog w base spare held n 3 (([c0, c1, c2, c3, c4, c5].drop 1).take (Try.prog.cellsOf 3)) = xs[1]? := hf 1 _ rfl
  have f2 : DataW.trod enc Try.prog w base spare held n 3 (([c0, c1, c2, c3, c4, c5].drop 2).take (Try.prog.cellsOf 3)) = xs[2]? := hf 2 _ rfl
  have f3 : DataW.trod enc Try.prog w base spare held n 3 (([c0, c1, c2, c3, c4, c5].drop 3).take (Try.prog.cellsOf 3)) = xs[3]? := hf 3 _ rfl
  have f4 : DataW.trod enc Try.prog w base spare held n 3 (([c0, c1, c2, c3, c4, c5].drop 4).take (Try.prog.cellsOf 3)) = xs[4]? := hf 4 _ rfl
  have f5 : DataW.trod enc Try.prog w base spare held n 3 (([c0, c1, c2, c3, c4, c5].drop 5).take (Try.prog.cellsOf 3)) = xs[5]? := hf 5 _ rfl
  rw [cells9] at f0
  rw [cells3] at f1 f2 f3 f4 f5
  simp only [List.drop_zero, List.drop_succ_cons, List.take_succ_cons, List.take_zero] at f0 f1 f2 f3 f4 f5
  rw [List.getElem?_eq_getElem (by omega)] at f0 f1 f2 f3 f4 f5
  obtain ⟨s, e0, _⟩ := DataW.trod_string Try.underlying9 f0
  obtain ⟨a1, e1, _⟩ := DataW.trod_int Try.underlying3 f1
  obtain ⟨a2, e2, _⟩ := DataW.trod_int Try.underlying3 f2
  obtain ⟨a3, e3, _⟩ := DataW.trod_int Try.underlying3 f3
  obtain ⟨a4, e4, _⟩ := DataW.trod_int Try.underlying3 f4
  obtain ⟨a5, e5, _⟩ := DataW.trod_int Try.underlying3 f5
  simp only [List.cons.injEq, and_true] at e0 e1 e2 e3 e4 e5
  subst e0 e1 e2 e3 e4 e5
  exact ⟨⟨s, a1, a2, a3, a4, a5⟩, rfl⟩

theorem pick_list {W : World} {a : Addr} {len : Nat} (key : ∀ i, i < len → ∃ cd : Cd, W.cells? 0 (a.add (i * 6)) 6 = some (cdCells cd)) :
    ∃ X : List Cd, X.length = len ∧ ∀ i, i < len → W.cells? 0 (a.add (i * 6)) 6 = some (cdCells (X.getD i noCd)) := by
  induction len with
  | zero => exact ⟨[], rfl, fun i hi => by omega⟩
  | succ len ih =>
    obtain ⟨X, hX, hc⟩ := ih (fun i hi => key i (by omega))
    obtain ⟨cd, hcd⟩ := key len (by omega)
    refine ⟨X ++ [cd], by simp [hX], fun i hi => ?_⟩
    by_cases hil : i < len
    · rw [hc i hil]
      have : (X ++ [cd]).getD i noCd = X.getD i noCd := by simp [List.getD, List.getElem?_append_left (show i < X.length by omega)]
      rw [this]
    · have : i = len := by omega
      subst this
      have : (X ++ [cd]).getD i noCd = cd := by simp [List.getD, ← hX]
      rw [hcd, this]

theorem open_cands {H : Type} {enc : TypeId × Value → H} {W : World} {a0 : Option Addr} {len cap : Nat} {d : DataW H} {ps : List MemPlace}
    (h : DataW.Trod enc Try.prog W 0 (fun _ => true) true 31 (.slice a0 len cap) d ps) : ∃ X : List Cd, X.length = len ∧ len ≤ maxLen ∧ Src W a0 X := by
  obtain ⟨fuel, hf⟩ := h
  rcases Deep.open_slice Try.underlying31 hf with ⟨hcs, _⟩ | ⟨a, l, c, m, n, D, Pl, hcs, _, hl, hm, hmm, _, hx⟩
  · simp [Value.cells] at hcs
    obtain ⟨rfl, rfl, rfl⟩ := hcs
    exact ⟨[], rfl, Nat.zero_le _, Src.nil _ _⟩
  · simp [Value.cells] at hcs
    obtain ⟨rfl, rfl, rfl⟩ := hcs
    simp only [if_true] at hmm
    subst hmm
    have key : ∀ i, i < len → ∃ cd : Cd, W.cells? 0 (a.add (i * 6)) 6 = some (cdCells cd) := fun i hi => by
      obtain ⟨cs', h1, h2⟩ := hx i (by omega)
      rw [cells34] at h1
      obtain ⟨cd, rfl⟩ := open_cand h2
      exact ⟨cd, h1⟩
    obtain ⟨X, hX, hc⟩ := pick_list key
    refine ⟨X, hX, by omega, fun i hi => ?_⟩
    have hi' : i < len := by omega
    obtain ⟨_, _, hcell⟩ := World.cells?_some (hc i hi')
    have hs : a.spot = none := by
      obtain ⟨_, _, hcell0⟩ := World.cells?_some (hc 0 (by omega))
      have z0 := hcell0 0 (by omega)
      rw [Nat.zero_mul, Addr.add, if_pos rfl, Addr.add, if_pos rfl] at z0
      exact World.cell?_spot (z0.trans rfl : W.cell? a = some (.string (X.getD 0 noCd).ty))
    obtain ⟨b, off, spot⟩ := a
    simp only at hs
    subst hs
    refine ⟨b, off, rfl, ?_⟩
    have g : ∀ j, j < 6 → W.cell? ⟨b, off + i * 6 + j, none⟩ = (cdCells (X.getD i noCd))[j]? := fun j hj => by
      have := hcell j hj
      rwa [Addr.add_lit, Addr.add_lit] at this
    exact ⟨g 0 (by omega), g 1 (by omega), g 2 (by omega), g 3 (by omega), g 4 (by omega), g 5 (by omega)⟩

end Go.Proofs.Qxb6621684a
