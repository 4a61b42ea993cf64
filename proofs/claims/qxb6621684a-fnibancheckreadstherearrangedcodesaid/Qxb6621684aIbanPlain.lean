/-
  THE PLAIN LAW of (*ibanCheck).add: no Go in sight. Bytes are numbers.
-/
import Derived.RowKit
namespace Go.Proofs.Qxb6621684a

structure Ib where
  ln : Int
  head : Int
  hs : Int
  rest : Int
  up : Bool
  low : Bool

namespace Ibn

def digB (c : Int) : Bool := decide (48 ≤ c) && decide (c ≤ 57)
def upB (c : Int) : Bool := decide (65 ≤ c) && decide (c ≤ 90)
def lowB (c : Int) : Bool := decide (97 ≤ c) && decide (c ≤ 122)
/-- An ASCII letter or digit. -/
def Al (c : Int) : Prop := (48 ≤ c ∧ c ≤ 57) ∨ (65 ≤ c ∧ c ≤ 90) ∨ (97 ≤ c ∧ c ≤ 122)
def val (c : Int) : Int := if c ≤ 57 then c - 48 else if c ≤ 90 then c - 65 + 10 else c - 97 + 10
def scale (c : Int) : Int := if c ≤ 57 then 10 else 100
def addV (s : Ib) (sc v : Int) (u l : Bool) : Ib where
  ln := s.ln + 1
  head := if s.ln < 4 then s.head * sc + v else s.head
  hs := if s.ln < 4 then (if s.ln = 0 then 1 else s.hs) * sc else s.hs
  rest := if s.ln < 4 then s.rest else (s.rest * sc + v) % 97
  up := s.up || u
  low := s.low || l
def add (s : Ib) (c : Int) : Ib := addV s (scale c) (val c) (upB c) (lowB c)
def zero : Ib := ⟨0, 0, 0, 0, false, false⟩
def feed (l : List Int) : Ib := l.foldl add zero
/-- What holds of the check behind each step. -/
structure Fine (s : Ib) : Prop where
  ln0 : 0 ≤ s.ln
  h0 : 0 ≤ s.head
  s0 : 0 ≤ s.hs
  r0 : 0 ≤ s.rest
  r1 : s.rest < 97
  b0 : s.ln = 0 → s.head = 0 ∧ s.hs = 0
  b1 : s.ln = 1 → s.head < 100 ∧ s.hs ≤ 100
  b2 : s.ln = 2 → s.head < 10000 ∧ s.hs ≤ 10000
  b3 : s.ln = 3 → s.head < 1000000 ∧ s.hs ≤ 1000000
  b4 : 4 ≤ s.ln → s.head < 100000000 ∧ s.hs ≤ 100000000

theorem val_bd {c : Int} (h : Al c) : 0 ≤ val c ∧ val c < scale c ∧ (scale c = 10 ∨ scale c = 100) := by
  unfold val scale
  unfold Al at h
  split
  · omega
  · split <;> omega

theorem fine_zero : Fine zero := ⟨by decide, by decide, by decide, by decide, by decide, fun _ => ⟨rfl, rfl⟩, fun h => by simp [zero] at h, fun h => by simp [zero] at h, fun h => by simp [zero] at h, fun h => by simp [zero] at h⟩

theorem fine_addV {s : Ib} {sc v : Int} (u l : Bool) (hs : Fine s) (v0 : 0 ≤ v) (v1 : v < sc) (v2 : sc = 10 ∨ sc = 100) : Fine (addV s sc v u l) := by
  obtain ⟨a1, a2, a3, a4, a5, b0, b1, b2, b3, b4⟩ := hs
  obtain ⟨ln, head, hs, rest, up, low⟩ := s
  simp only at *
  have key : ln = 0 ∨ ln = 1 ∨ ln = 2 ∨ ln = 3 ∨ 4 ≤ ln := by omega
  rcases v2 with rfl | rfl
  all_goals
    rcases key with rfl | rfl | rfl | rfl | h4
    · obtain ⟨b0, b0'⟩ := b0 rfl
      constructor <;> simp [addV] <;> omega
    · obtain ⟨b1, b1'⟩ := b1 rfl
      constructor <;> simp [addV] <;> omega
    · obtain ⟨b2, b2'⟩ := b2 rfl
      constructor <;> simp [addV] <;> omega
    · obtain ⟨b3, b3'⟩ := b3 rfl
      constructor <;> simp [addV] <;> omega
    · obtain ⟨b4, b4'⟩ := b4 h4
      have h5 : ¬ ln < 4 := by omega
      constructor <;> simp [addV, h5] <;> omega

theorem fine_add {s : Ib} {c : Int} (hs : Fine s) (hc : Al c) : Fine (add s c) := by
  obtain ⟨v0, v1, v2⟩ := val_bd hc
  exact fine_addV _ _ hs v0 v1 v2

theorem feed_snoc (l : List Int) (c : Int) : feed (l ++ [c]) = add (feed l) c := by simp [feed]
theorem feed_fine (l : List Int) (h : ∀ c ∈ l, Al c) : Fine (feed l) := by
  have g : ∀ (l : List Int) (s : Ib), (∀ c ∈ l, Al c) → Fine s → Fine (l.foldl add s) := by
    intro l
    induction l with
    | nil => intro s _ hs; exact hs
    | cons c l ih => intro s hl hs; exact ih _ (fun x hx => hl x (by simp [hx])) (fine_add hs (hl c (by simp)))
  exact g l zero h fine_zero

theorem feed_ln (l : List Int) : (feed l).ln = l.length := by
  have g : ∀ (l : List Int) (s : Ib), (l.foldl add s).ln = s.ln + l.length := by
    intro l
    induction l with
    | nil => intro s; simp
    | cons c l ih => intro s; rw [List.foldl_cons, ih]; simp [add, addV]; omega
  rw [feed, g]; simp [zero]
theorem feed_up (l : List Int) : (feed l).up = l.any upB := by
  have g : ∀ (l : List Int) (s : Ib), (l.foldl add s).up = (s.up || l.any upB) := by
    intro l
    induction l with
    | nil => intro s; simp
    | cons c l ih => intro s; rw [List.foldl_cons, ih]; simp [add, addV, Bool.or_assoc]
  rw [feed, g]; simp [zero]
theorem feed_low (l : List Int) : (feed l).low = l.any lowB := by
  have g : ∀ (l : List Int) (s : Ib), (l.foldl add s).low = (s.low || l.any lowB) := by
    intro l
    induction l with
    | nil => intro s; simp
    | cons c l ih => intro s; rw [List.foldl_cons, ih]; simp [add, addV, Bool.or_assoc]
  rw [feed, g]; simp [zero]

/-! ### The letters lowered -/
def lower (c : Int) : Int := if 65 ≤ c ∧ c ≤ 90 then c + 32 else c
theorem lower_al {c : Int} (h : Al c) : Al (lower c) := by
  unfold lower; unfold Al at *; split <;> omega
theorem lower_val {c : Int} (h : Al c) : val (lower c) = val c ∧ scale (lower c) = scale c := by
  unfold Al at h
  unfold lower val scale
  rcases h with h | h | h
  · have h1 : ¬ (65 ≤ c ∧ c ≤ 90) := by omega
    have h2 : c ≤ 57 := by omega
    simp [h1]
  · have h1 : 65 ≤ c ∧ c ≤ 90 := by omega
    have h2 : ¬ c ≤ 57 := by omega
    have h3 : ¬ c + 32 ≤ 57 := by omega
    have h4 : ¬ c + 32 ≤ 90 := by omega
    simp [h1, h2, h3, h4]
    omega
  · have h1 : ¬ (65 ≤ c ∧ c ≤ 90) := by omega
    simp [h1]

theorem feed_lower (l : List Int) (h : ∀ c ∈ l, Al c) : (feed (l.map lower)).head = (feed l).head ∧ (feed (l.map lower)).hs = (feed l).hs ∧ (feed (l.map lower)).rest = (feed l).rest := by
  have g : ∀ (l : List Int) (s t : Ib), (∀ c ∈ l, Al c) → s.ln = t.ln → s.head = t.head → s.hs = t.hs → s.rest = t.rest →
      ((l.map lower).foldl add s).head = (l.foldl add t).head ∧ ((l.map lower).foldl add s).hs = (l.foldl add t).hs ∧ ((l.map lower).foldl add s).rest = (l.foldl add t).rest := by
    intro l
    induction l with
    | nil => intro s t _ _ h1 h2 h3; exact ⟨h1, h2, h3⟩
    | cons c l ih =>
      intro s t hl h0 h1 h2 h3
      obtain ⟨e1, e2⟩ := lower_val (hl c (by simp))
      simp only [List.map_cons, List.foldl_cons]
      refine ih _ _ (fun x hx => hl x (by simp [hx])) ?_ ?_ ?_ ?_ <;> simp [add, addV, e1, e2, h0, h1, h2, h3]
  exact g l zero zero h rfl rfl rfl rfl

theorem upB_lower (c : Int) : upB (lower c) = false := by
  unfold lower upB
  split
  · have h1 : ¬ c + 32 ≤ 90 := by omega
    simp [h1]
  · by_cases h : 65 ≤ c
    · have h1 : ¬ c ≤ 90 := by omega
      simp [h1]
    · simp [h]
theorem lowB_lower (c : Int) : lowB (lower c) = (upB c || lowB c) := by
  unfold lower upB lowB
  by_cases h : 65 ≤ c ∧ c ≤ 90
  · have h1 : 97 ≤ c + 32 := by omega
    have h2 : c + 32 ≤ 122 := by omega
    simp [h, h1, h2]
  · rw [if_neg h]
    have : (decide (65 ≤ c) && decide (c ≤ 90)) = false := by
      by_cases h1 : 65 ≤ c
      · have h2 : ¬ c ≤ 90 := by omega
        simp [h2]
      · simp [h1]
    rw [this]; simp

theorem lower_up (l : List Int) : (feed (l.map lower)).up = false := by
  rw [feed_up, List.any_map]
  have : (upB ∘ lower) = fun _ => false := by funext c; exact upB_lower c
  rw [this]; simp
theorem lower_low (l : List Int) : (feed (l.map lower)).low = (l.any upB || l.any lowB) := by
  rw [feed_low, List.any_map]
  have : (lowB ∘ lower) = fun c => upB c || lowB c := by funext c; exact lowB_lower c
  rw [this]
  induction l with
  | nil => rfl
  | cons c l ih =>
    simp only [List.any_cons] at ih ⊢
    rw [ih]
    cases upB c <;> cases lowB c <;> cases l.any upB <;> cases l.any lowB <;> rfl

end Ibn
end Go.Proofs.Qxb6621684a
