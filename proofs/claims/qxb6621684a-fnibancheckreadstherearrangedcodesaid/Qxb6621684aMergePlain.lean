/-
  THE PLAIN LAW of mergeOverlaps: no Go in sight. 'step' is one round; the merged values lie in reverse.
-/
import Derived.RowKit
namespace Go.Proofs.Qxb6621684a
open Go.RowKit

/-- One candidate. -/
structure Cd where
  ty : ByteArray
  st : Int
  en : Int
  rk : Int
  sz : Int
  sh : Int

namespace Mg

def givesB (v c : Cd) : Bool := decide (0 < v.sh) && (decide (v.sh ≤ c.st) && decide (c.st < v.en))
def minB (a b : Int) : Int := if b < a then b else a
def cut (m : Cd) : Cd := { m with en := m.sh, sz := minB m.sz (wrap64 (m.sh - m.st)), sh := 0 }
def give (m c : Cd) : Cd := if givesB m c = true then cut m else m
def okS (a b : Cd) (s : Int) : Bool := decide (0 < s) && ((decide (a.en ≤ s) || decide (a.sh = s)) && (decide (b.en ≤ s) || decide (b.sh = s)))
def shared (a b : Cd) : Int := if okS a b a.sh = true then a.sh else if okS a b b.sh = true then b.sh else 0
def betterB (m c : Cd) : Bool := decide (m.sz < c.sz) || (decide (c.sz = m.sz) && decide (c.rk < m.rk))
def pick (m c : Cd) : Cd := if betterB m c = true then { m with ty := c.ty, rk := c.rk, sz := c.sz } else m
def maxB (a b : Int) : Int := if a < b then b else a
def join1 (m c : Cd) : Cd := { m with sh := shared m c, en := maxB m.en c.en }
def join (m c : Cd) : Cd := join1 (pick m c) c
def step : List Cd → Cd → List Cd
  | [], c => [c]
  | m :: r, c => if (give m c).en ≤ c.st then c :: give m c :: r else join (give m c) c :: r
theorem step_cons (m c : Cd) (r : List Cd) : step (m :: r) c = if (give m c).en ≤ c.st then c :: give m c :: r else join (give m c) c :: r := rfl
def run (rs l : List Cd) : List Cd := l.foldl step rs
def merge (l : List Cd) : List Cd := (run [] l).reverse

/-- Each value ends by the start of the next (the later ones first). -/
def Sep : List Cd → Prop
  | c :: m :: r => m.en ≤ c.st ∧ Sep (m :: r)
  | _ => True

theorem give_st (m c : Cd) : (give m c).st = m.st := by
  unfold give; split <;> rfl
theorem pick_st (m c : Cd) : (pick m c).st = m.st := by
  unfold pick; split <;> rfl
theorem join_st (m c : Cd) : (join m c).st = m.st := by
  show (pick m c).st = m.st
  exact pick_st m c

theorem sep_head {m m' : Cd} {r : List Cd} (hst : m'.st = m.st) (h : Sep (m :: r)) : Sep (m' :: r) := by
  cases r with
  | nil => trivial
  | cons x r => exact ⟨by have := h.1; rw [hst]; exact this, h.2⟩

theorem step_sep {rs : List Cd} (c : Cd) (h : Sep rs) : Sep (step rs c) := by
  cases rs with
  | nil => trivial
  | cons m r =>
    rw [step_cons]
    split
    · exact ⟨by assumption, sep_head (give_st m c) h⟩
    · exact sep_head (by rw [join_st, give_st]) h

theorem run_sep (l : List Cd) : ∀ rs, Sep rs → Sep (run rs l) := by
  induction l with
  | nil => intro rs h; exact h
  | cons c l ih => intro rs h; exact ih _ (step_sep c h)

theorem run_app (rs a b : List Cd) : run rs (a ++ b) = run (run rs a) b := by
  unfold run; rw [List.foldl_append]

theorem give_same {m c : Cd} (h : m.en ≤ c.st) : give m c = m := by
  unfold give
  have : givesB m c = false := by
    unfold givesB
    have : decide (c.st < m.en) = false := by simp; omega
    simp [this]
  simp [this]

theorem refold (rs : List Cd) (h : Sep rs) : run [] rs.reverse = rs := by
  induction rs with
  | nil => rfl
  | cons c r ih =>
    have hr : Sep r := by
      cases r with
      | nil => trivial
      | cons m r => exact h.2
    rw [List.reverse_cons, run_app, ih hr]
    cases r with
    | nil => rfl
    | cons m r =>
      have h1 : m.en ≤ c.st := h.1
      show step (m :: r) c = _
      rw [step_cons, give_same h1, if_pos h1]

/-- Merging x ++ y is merging (merge x) ++ y. -/
theorem merge_cut (x y : List Cd) : merge (merge x ++ y) = merge (x ++ y) := by
  unfold merge
  rw [run_app, run_app, refold _ (run_sep x [] trivial)]

theorem step_len (rs : List Cd) (c : Cd) : 0 < (step rs c).length ∧ (step rs c).length ≤ rs.length + 1 ∧ rs.length ≤ (step rs c).length := by
  cases rs with
  | nil => simp [step]
  | cons m r => rw [step_cons]; split <;> simp

theorem run_len (l : List Cd) : ∀ rs, (run rs l).length ≤ rs.length + l.length ∧ rs.length ≤ (run rs l).length := by
  induction l with
  | nil => intro rs; simp [run]
  | cons c l ih =>
    intro rs
    have h1 := ih (step rs c)
    have h2 := step_len rs c
    show (run (step rs c) l).length ≤ _ ∧ _ ≤ (run (step rs c) l).length
    simp only [List.length_cons]
    omega

theorem merge_len (l : List Cd) : (merge l).length ≤ l.length := by
  have := run_len l []
  simp [merge] at this ⊢
  exact this

theorem merge_pos (l : List Cd) (h : 0 < l.length) : 0 < (merge l).length := by
  cases l with
  | nil => simp at h
  | cons c l =>
    have h1 := run_len l [c]
    show 0 < (run [c] l).reverse.length
    simp at h1 ⊢
    omega

/-- The first value's start stays (the last of the reversed). -/
theorem step_last (rs : List Cd) (c : Cd) (h : 0 < rs.length) : ((step rs c).getLast?).map Cd.st = (rs.getLast?).map Cd.st := by
  cases rs with
  | nil => simp at h
  | cons m r =>
    rw [step_cons]
    split
    · cases r with
      | nil => simp [give_st]
      | cons x r => simp [List.getLast?_cons_cons]
    · cases r with
      | nil => simp [join_st, give_st]
      | cons x r => simp [List.getLast?_cons_cons]

theorem run_last (l : List Cd) : ∀ rs : List Cd, 0 < rs.length → ((run rs l).getLast?).map Cd.st = (rs.getLast?).map Cd.st := by
  induction l with
  | nil => intro rs _; rfl
  | cons c l ih =>
    intro rs h
    have h2 := step_len rs c
    show ((run (step rs c) l).getLast?).map Cd.st = _
    rw [ih _ h2.1, step_last rs c h]

theorem merge_first (l : List Cd) : ((merge l).head?).map Cd.st = (l.head?).map Cd.st := by
  cases l with
  | nil => rfl
  | cons c l =>
    have := run_last l [c] (by simp)
    unfold merge
    rw [List.head?_reverse]
    exact this

/-- By place: each value ends by the start of the next. -/
theorem sep_at (rs : List Cd) (h : Sep rs) : ∀ (k : Nat) (a b : Cd), rs[k + 1]? = some a → rs[k]? = some b → a.en ≤ b.st := by
  induction rs with
  | nil => intro k a b h1; simp at h1
  | cons c r ih =>
    intro k a b h1 h2
    cases r with
    | nil => simp at h1
    | cons m r =>
      cases k with
      | zero => simp at h1 h2; subst h1; subst h2; exact h.1
      | succ k => exact ih h.2 k a b (by simpa using h1) (by simpa using h2)

theorem merge_sep (l : List Cd) (k : Nat) (a b : Cd) (h1 : (merge l)[k]? = some a) (h2 : (merge l)[k + 1]? = some b) : a.en ≤ b.st := by
  have hs := run_sep l [] trivial
  unfold merge at h1 h2
  have hk : k + 1 < (run [] l).length := by
    have := (List.getElem?_eq_some_iff.1 h2).1
    simpa using this
  rw [List.getElem?_reverse (by omega)] at h1
  rw [List.getElem?_reverse hk] at h2
  refine sep_at _ hs ((run [] l).length - 1 - (k + 1)) a b ?_ h2
  rw [← h1]
  congr 1
  omega

end Mg
end Go.Proofs.Qxb6621684a
