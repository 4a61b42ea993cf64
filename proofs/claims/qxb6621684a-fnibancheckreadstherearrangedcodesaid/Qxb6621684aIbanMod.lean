/-
  THE PLAIN LAW behind FnIbanCheckReadsTheRearrangedCode: head, headScale and rest, and the number modulo 97. No Go in sight.
-/
import Derived.Test.Qxb6621684aIbanPlain
namespace Go.Proofs.Qxb6621684a
namespace Ibn

/-- One character appended to a number held modulo 97. -/
def modc (m c : Int) : Int := (m * scale c + val c) % 97
/-- One character appended to a number and to its scale. -/
def hd1 (p : Int × Int) (c : Int) : Int × Int := (p.1 * scale c + val c, p.2 * scale c)
def hd (l : List Int) : Int × Int := l.foldl hd1 (0, 1)
theorem hd_snoc (l : List Int) (c : Int) : hd (l ++ [c]) = hd1 (hd l) c := by simp [hd]

/-- What the feed comes to. -/
theorem feed_take (l : List Int) : ∀ k, k ≤ l.length → (feed (l.take k)).head = (hd ((l.take k).take 4)).1 ∧ (0 < k → (feed (l.take k)).hs = (hd ((l.take k).take 4)).2) ∧ (k = 0 → (feed (l.take k)).hs = 0) ∧ (feed (l.take k)).rest = ((l.take k).drop 4).foldl modc 0 := by
  intro k
  induction k with
  | zero => intro _; exact ⟨rfl, fun h => by omega, fun _ => rfl, rfl⟩
  | succ k ih =>
    intro hk
    obtain ⟨h1, h2, h3, h4⟩ := ih (by omega)
    have hlen : (l.take k).length = k := by rw [List.length_take]; omega
    have hln := feed_ln (l.take k)
    rw [hlen] at hln
    rw [List.take_succ_eq_append_getElem (show k < l.length by omega)]
    generalize l[k] = c
    rw [feed_snoc]
    by_cases hk4 : k < 4
    · have e1 : (l.take k ++ [c]).take 4 = l.take k ++ [c] := List.take_of_length_le (by simp; omega)
      have e2 : (l.take k ++ [c]).drop 4 = [] := List.drop_eq_nil_of_le (by simp; omega)
      have e3 : (l.take k).take 4 = l.take k := List.take_of_length_le (by omega)
      have e4 : (l.take k).drop 4 = [] := List.drop_eq_nil_of_le (by omega)
      rw [e3] at h1 h2
      rw [e4] at h4
      have hlt : (feed (l.take k)).ln < 4 := by omega
      rw [e1, e2, hd_snoc]
      refine ⟨?_, fun _ => ?_, fun h => by omega, ?_⟩
      · simp only [add, addV, if_pos hlt, hd1, h1]
      · simp only [add, addV, if_pos hlt, hd1]
        by_cases h0 : k = 0
        · have hz : (feed (l.take k)).ln = 0 := by omega
          have he : l.take k = [] := List.eq_nil_of_length_eq_zero (by omega)
          rw [if_pos hz, he]
          rfl
        · have hz : ¬ (feed (l.take k)).ln = 0 := by omega
          rw [if_neg hz, h2 (by omega)]
      · simp only [add, addV, if_pos hlt, h4]
        try rfl
    · have hge : ¬ (feed (l.take k)).ln < 4 := by omega
      have e1 : (l.take k ++ [c]).take 4 = (l.take k).take 4 := List.take_append_of_le_length (by omega)
      have e2 : (l.take k ++ [c]).drop 4 = (l.take k).drop 4 ++ [c] := List.drop_append_of_le_length (by omega)
      rw [e1, e2]
      refine ⟨?_, fun _ => ?_, fun h => by omega, ?_⟩
      · simp only [add, addV, if_neg hge, h1]
      · simp only [add, addV, if_neg hge, h2 (by omega)]
      · simp only [add, addV, if_neg hge, h4, List.foldl_append, List.foldl_cons, List.foldl_nil, modc]

theorem feed_parts (l : List Int) (h : 0 < l.length) : (feed l).head = (hd (l.take 4)).1 ∧ (feed l).hs = (hd (l.take 4)).2 ∧ (feed l).rest = (l.drop 4).foldl modc 0 := by
  have := feed_take l l.length (Nat.le_refl _)
  rw [List.take_length] at this
  exact ⟨this.1, this.2.1 h, this.2.2.2⟩

/-- Bounds of the head. -/
theorem hd_bd (l : List Int) (hal : ∀ c ∈ l, Al c) (i : Nat) (hi : i ≤ 4) (hil : i ≤ l.length) : 0 ≤ (hd (l.take i)).1 ∧ 0 ≤ (hd (l.take i)).2 ∧ (i < 4 → (hd (l.take i)).1 < 1000000 ∧ (hd (l.take i)).2 ≤ 1000000) ∧ (hd (l.take i)).1 < 100000000 ∧ (hd (l.take i)).2 ≤ 100000000 := by
  rcases Nat.eq_zero_or_pos i with h0 | h0
  · subst h0
    have e : hd (l.take 0) = (0, 1) := rfl
    rw [e]
    decide
  · have hlen : (l.take i).length = i := by rw [List.length_take]; omega
    obtain ⟨e1, e2, _⟩ := feed_parts (l.take i) (by omega)
    have e3 : (l.take i).take 4 = l.take i := List.take_of_length_le (by omega)
    rw [e3] at e1 e2
    have hf := feed_fine (l.take i) (fun c hc => hal c (List.mem_of_mem_take hc))
    have hln := feed_ln (l.take i)
    rw [hlen] at hln
    rw [← e1, ← e2]
    refine ⟨hf.h0, hf.s0, ?_, ?_⟩
    · intro h4
      rcases (show i = 1 ∨ i = 2 ∨ i = 3 by omega) with rfl | rfl | rfl
      · have := hf.b1 (by omega); omega
      · have := hf.b2 (by omega); omega
      · have := hf.b3 (by omega); omega
    · rcases (show i = 1 ∨ i = 2 ∨ i = 3 ∨ i = 4 by omega) with rfl | rfl | rfl | rfl
      · have := hf.b1 (by omega); omega
      · have := hf.b2 (by omega); omega
      · have := hf.b3 (by omega); omega
      · have := hf.b4 (by omega); omega

theorem mod_step (x v : Int) : (x % 97 * 10 + v) % 97 = (x * 10 + v) % 97 ∧ (x % 97 * 100 + v) % 97 = (x * 100 + v) % 97 := by omega

/-- Appending l to the number r (held modulo 97). -/
theorem mod_fold (l : List Int) (hal : ∀ c ∈ l, Al c) : ∀ (r : Int) (p : Int × Int), l.foldl modc ((r * p.2 + p.1) % 97) = (r * (l.foldl hd1 p).2 + (l.foldl hd1 p).1) % 97 := by
  induction l with
  | nil => intro r p; rfl
  | cons c l ih =>
    intro r p
    have hc := (val_bd (hal c (by simp))).2.2
    have e : modc ((r * p.2 + p.1) % 97) c = (r * (hd1 p c).2 + (hd1 p c).1) % 97 := by
      unfold modc hd1
      simp only
      rcases hc with h | h
      · rw [h, (mod_step _ _).1]
        have : r * (p.2 * 10) = r * p.2 * 10 := by rw [Int.mul_assoc]
        rw [this]
        congr 1
        omega
      · rw [h, (mod_step _ _).2]
        have : r * (p.2 * 100) = r * p.2 * 100 := by rw [Int.mul_assoc]
        rw [this]
        congr 1
        omega
    rw [List.foldl_cons, List.foldl_cons, e]
    exact ih (fun x hx => hal x (by simp [hx])) r (hd1 p c)

theorem fold_bd (l : List Int) : ∀ m : Int, 0 ≤ m → m < 97 → 0 ≤ l.foldl modc m ∧ l.foldl modc m < 97 := by
  induction l with
  | nil => intro m h1 h2; exact ⟨h1, h2⟩
  | cons c l ih =>
    intro m _ _
    rw [List.foldl_cons]
    refine ih _ ?_ ?_ <;> (unfold modc; omega)

theorem mod_join (r S H : Int) : (r * (S % 97) + H % 97) % 97 = (r * S + H) % 97 := by
  have h1 : r * S = 97 * (r * (S / 97)) + r * (S % 97) := by
    have := Int.mul_ediv_add_emod S 97
    calc r * S = r * (97 * (S / 97) + S % 97) := by rw [this]
      _ = 97 * (r * (S / 97)) + r * (S % 97) := by rw [Int.mul_add, Int.mul_left_comm]
  rw [h1]
  omega

/-- The rearranged code. -/
theorem rearranged (l : List Int) (hal : ∀ c ∈ l, Al c) : (l.take 4).foldl modc ((l.drop 4).foldl modc 0) = ((l.drop 4).foldl modc 0 * ((hd (l.take 4)).2 % 97) + (hd (l.take 4)).1 % 97) % 97 := by
  have hb := fold_bd (l.drop 4) 0 (by decide) (by decide)
  generalize (l.drop 4).foldl modc 0 = r at *
  have h := mod_fold (l.take 4) (fun c hc => hal c (List.mem_of_mem_take hc)) r (0, 1)
  have e : (r * (0, 1).2 + (0, 1).1) % 97 = r := by
    show (r * 1 + 0) % 97 = r
    omega
  rw [e] at h
  rw [h, mod_join]
  rfl

theorem prod_bd (r S : Int) (h0 : 0 ≤ r) (h1 : r < 97) : 0 ≤ r * (S % 97) ∧ r * (S % 97) ≤ 10000 := by
  have a : 0 ≤ S % 97 := by omega
  have b : S % 97 ≤ 96 := by omega
  refine ⟨Int.mul_nonneg h0 a, ?_⟩
  have : r * (S % 97) ≤ 96 * 96 := Int.mul_le_mul (by omega) b a (by decide)
  omega

end Ibn
end Go.Proofs.Qxb6621684a
