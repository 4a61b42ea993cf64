/-
  THE STATE OF mergeOverlaps' LOOP behind k rounds: plain lists.
-/
import Derived.Test.Qxb6621684aMem
namespace Go.Proofs.Qxb6621684a
namespace Mg

/-- The merged values behind k rounds, the last first. -/
def rsK (l : List Cd) (k : Nat) : List Cd := run [] (l.take k)
/-- What stands in found's room behind k rounds. -/
def memK (l : List Cd) (k : Nat) : List Cd := (rsK l k).reverse ++ l.drop (rsK l k).length

theorem rsK_zero (l : List Cd) : rsK l 0 = [] := by simp [rsK, run]
theorem memK_zero (l : List Cd) : memK l 0 = l := by simp [memK, rsK_zero]
theorem rsK_all (l : List Cd) : rsK l l.length = run [] l := by simp [rsK]
theorem memK_all (l : List Cd) : memK l l.length = merge l ++ l.drop (merge l).length := by
  simp [memK, rsK_all, merge]

theorem rsK_succ (l : List Cd) (k : Nat) (h : k < l.length) : rsK l (k + 1) = step (rsK l k) (l.getD k noCd) := by
  unfold rsK
  rw [List.take_succ_eq_append_getElem h, run_app]
  simp [run, List.getD, h]

theorem rsK_le (l : List Cd) (k : Nat) : (rsK l k).length ≤ k := by
  have := (run_len (l.take k) []).1
  simp [rsK] at this ⊢
  omega

theorem memK_len (l : List Cd) (k : Nat) (h : k ≤ l.length) : (memK l k).length = l.length := by
  have := rsK_le l k
  simp [memK]
  omega

theorem memK_at (l : List Cd) (k : Nat) : (memK l k).getD k noCd = l.getD k noCd := by
  have := rsK_le l k
  simp only [memK, List.getD]
  rw [List.getElem?_append_right (by simpa using this), List.getElem?_drop, List.length_reverse]
  rw [show (rsK l k).length + (k - (rsK l k).length) = k by omega]

theorem memK_last {l : List Cd} {k : Nat} {m : Cd} {r : List Cd} (h : rsK l k = m :: r) : (memK l k).getD r.length noCd = m := by
  simp only [memK, h, List.getD, List.reverse_cons, List.append_assoc]
  rw [List.getElem?_append_right (by simp)]
  simp

/-- The first value. -/
theorem memK_first {l : List Cd} {k : Nat} (hk : k < l.length) (h : rsK l k = []) : (memK l k).set 0 (l.getD k noCd) = memK l (k + 1) ∧ (rsK l (k + 1)).length = 1 := by
  have hs := rsK_succ l k hk
  rw [h] at hs
  have e : rsK l (k + 1) = [l.getD k noCd] := hs
  refine ⟨?_, by rw [e]; rfl⟩
  simp only [memK, h, e]
  cases l with
  | nil => simp at hk
  | cons x l => simp

/-- The next value stands apart. -/
theorem memK_apart {l : List Cd} {k : Nat} {m m' : Cd} {r : List Cd} (hk : k < l.length) (h : rsK l k = m :: r) (hs : step (m :: r) (l.getD k noCd) = l.getD k noCd :: m' :: r) :
    ((memK l k).set r.length m').set (r.length + 1) (l.getD k noCd) = memK l (k + 1) ∧ (rsK l (k + 1)).length = r.length + 2 := by
  have hs1 := rsK_succ l k hk
  rw [h, hs] at hs1
  have hle := rsK_le l k
  rw [h] at hle
  simp at hle
  refine ⟨?_, by rw [hs1]; rfl⟩
  generalize l.getD k noCd = c at *
  simp only [memK, h, hs1, List.reverse_cons, List.append_assoc, List.length_cons]
  rw [List.set_append_right _ _ (by simp)]
  rw [List.set_append_right _ _ (by simp)]
  simp only [List.length_reverse, Nat.sub_self, List.cons_append, List.nil_append, List.set_cons_zero, show r.length + 1 - r.length = 1 by omega]
  rw [show l.drop (r.length + 1) = l[r.length + 1]'(by omega) :: l.drop (r.length + 1 + 1) from List.drop_eq_getElem_cons (by omega)]
  simp only [List.set_cons_succ, List.set_cons_zero]

/-- The next value is taken in. -/
theorem memK_join {l : List Cd} {k : Nat} {m x : Cd} {r : List Cd} (hk : k < l.length) (h : rsK l k = m :: r) (hs : step (m :: r) (l.getD k noCd) = x :: r) :
    (memK l k).set r.length x = memK l (k + 1) ∧ (rsK l (k + 1)).length = r.length + 1 := by
  have hs1 := rsK_succ l k hk
  rw [h, hs] at hs1
  refine ⟨?_, by rw [hs1]; rfl⟩
  simp only [memK, h, hs1, List.reverse_cons, List.append_assoc, List.length_cons]
  rw [List.set_append_right _ _ (by simp)]
  simp

end Mg
end Go.Proofs.Qxb6621684a
