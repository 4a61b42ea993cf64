/-
  THE PLAIN LAW of zzChainModel: candidates none of which gives way, each with start <= end: the chains are the merged values.
-/
import Derived.Test.Qxb6621684aState
namespace Go.Proofs.Qxb6621684a
namespace Mg

/-- None gives way, each starts no later than it ends. -/
def Tame (l : List Cd) : Prop := ∀ i, i < l.length → (l.getD i noCd).st ≤ (l.getD i noCd).en ∧ (l.getD i noCd).sh ≤ 0

theorem give_tame {m c : Cd} (h : m.sh ≤ 0) : give m c = m := by
  have : givesB m c = false := by
    have : ¬ 0 < m.sh := by omega
    simp [givesB, this]
  simp [give, this]

theorem shared_tame {a b : Cd} (h1 : a.sh ≤ 0) (h2 : b.sh ≤ 0) : shared a b = 0 := by
  have e1 : okS a b a.sh = false := by
    have : ¬ 0 < a.sh := by omega
    simp [okS, this]
  have e2 : okS a b b.sh = false := by
    have : ¬ 0 < b.sh := by omega
    simp [okS, this]
  simp [shared, e1, e2]

theorem pick_sh (m c : Cd) : (pick m c).sh = m.sh := by unfold pick; split <;> rfl
theorem pick_en (m c : Cd) : (pick m c).en = m.en := by unfold pick; split <;> rfl

theorem join_tame {m c : Cd} (h1 : m.sh ≤ 0) (h2 : c.sh ≤ 0) : (join m c).sh = 0 ∧ (join m c).en = maxB m.en c.en ∧ (join m c).st = m.st := by
  refine ⟨?_, ?_, join_st m c⟩
  · show shared (pick m c) c = 0
    exact shared_tame (by rw [pick_sh]; exact h1) h2
  · show maxB (pick m c).en c.en = _
    rw [pick_en]
theorem join_yes {m c : Cd} (h : betterB m c = true) : (join m c).ty = c.ty ∧ (join m c).rk = c.rk ∧ (join m c).sz = c.sz := by
  simp [join, join1, pick, h]
theorem join_no {m c : Cd} (h : betterB m c = false) : (join m c).ty = m.ty ∧ (join m c).rk = m.rk ∧ (join m c).sz = m.sz := by
  simp [join, join1, pick, h]

theorem step_sh {rs : List Cd} {c : Cd} (h : ∀ x ∈ rs, x.sh ≤ 0) (hc : c.sh ≤ 0) : ∀ x ∈ step rs c, x.sh ≤ 0 := by
  cases rs with
  | nil =>
    intro x hx
    have : x = c := by simpa [step] using hx
    rw [this]; exact hc
  | cons m r =>
    have hm := h m (by simp)
    rw [step_cons, give_tame hm]
    split
    · intro x hx
      simp only [List.mem_cons] at hx
      rcases hx with rfl | rfl | hx
      · exact hc
      · exact hm
      · exact h x (by simp [hx])
    · intro x hx
      simp only [List.mem_cons] at hx
      rcases hx with rfl | hx
      · rw [(join_tame hm hc).1]; exact Int.le_refl _
      · exact h x (by simp [hx])

theorem rsK_sh {l : List Cd} (hd : Tame l) : ∀ k, k ≤ l.length → ∀ x ∈ rsK l k, x.sh ≤ 0 := by
  intro k
  induction k with
  | zero => intro _ x hx; rw [rsK_zero] at hx; simp at hx
  | succ k ih =>
    intro hk
    rw [rsK_succ l k (by omega)]
    exact step_sh (ih (by omega)) (hd k (by omega)).2

/-- A new chain begins. -/
theorem chain_new {l : List Cd} (hd : Tame l) {a : Nat} (ha : a < l.length) (h : ∀ m r, rsK l a = m :: r → m.en ≤ (l.getD a noCd).st) : rsK l (a + 1) = l.getD a noCd :: rsK l a := by
  rw [rsK_succ l a ha]
  cases e : rsK l a with
  | nil => rfl
  | cons m r =>
    have hm := rsK_sh hd a (by omega) m (by rw [e]; simp)
    rw [step_cons, give_tame hm, if_pos (h m r e)]

/-- The chain goes on. -/
theorem chain_on {l : List Cd} (hd : Tame l) {j : Nat} (hj : j < l.length) {x : Cd} {R : List Cd} (h : rsK l j = x :: R) (hlt : (l.getD j noCd).st < x.en) : rsK l (j + 1) = join x (l.getD j noCd) :: R := by
  have hm := rsK_sh hd j (by omega) x (by rw [h]; simp)
  rw [rsK_succ l j hj, h, step_cons, give_tame hm, if_neg (by omega)]

theorem chain_on_facts {l : List Cd} (hd : Tame l) {j : Nat} (hj : j < l.length) {x : Cd} {R : List Cd} (h : rsK l j = x :: R) :
    (join x (l.getD j noCd)).sh = 0 ∧ (join x (l.getD j noCd)).en = maxB x.en (l.getD j noCd).en ∧ (join x (l.getD j noCd)).st = x.st :=
  join_tame (rsK_sh hd j (by omega) x (by rw [h]; simp)) (hd j hj).2

/-- out's room behind the chains of the first a candidates. -/
def outL (l : List Cd) (a : Nat) : List Cd := (rsK l a).reverse ++ List.replicate (l.length - (rsK l a).length) noCd
theorem outL_zero (l : List Cd) : outL l 0 = List.replicate l.length noCd := by simp [outL, rsK_zero]
theorem outL_len (l : List Cd) (a : Nat) (h : a ≤ l.length) : (outL l a).length = l.length := by
  have := rsK_le l a
  simp [outL]; omega
theorem outL_set {l : List Cd} {a b : Nat} {x : Cd} (hb : b ≤ l.length) (h : rsK l b = x :: rsK l a) : (outL l a).set (rsK l a).length x = outL l b := by
  have hle := rsK_le l b
  rw [h] at hle
  simp only [List.length_cons] at hle
  unfold outL
  rw [h, List.reverse_cons, List.append_assoc, List.set_append_right _ _ (by simp), List.length_reverse, Nat.sub_self, List.length_cons,
    show l.length - (rsK l a).length = (l.length - ((rsK l a).length + 1)) + 1 by omega, List.replicate_succ, List.set_cons_zero]
  rfl
theorem outL_all (l : List Cd) : outL l l.length = merge l ++ List.replicate (l.length - (merge l).length) noCd := by
  simp [outL, rsK_all, merge]

end Mg
end Go.Proofs.Qxb6621684a
