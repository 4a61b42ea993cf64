import Derived.Test.Qxb6621684aProg
import Derived.Test.Qxb6621684aMergePlain
import Derived.WalkKit
import Derived.WalkSpells
import Derived.WalkLawsBesides
import Derived.Deep.QuietTactic
import Derived.BigQuiet
import Derived.Deep.Light
namespace Go.Proofs.Qxb6621684a
open Go.RowKit

theorem ret_bool {a b : Bool} (h : a = b) : Ending.returned (.bool a) = .returned (.bool b) := by rw [h]
theorem ret_int {k : IntKind} {a b : Int} (h : a = b) : Ending.returned (.int k a) = .returned (.int k b) := by rw [h]

set_option maxHeartbeats 400000 in
theorem gives_raw (t1 t2 : ByteArray) (a1 a2 a3 a4 a5 b1 b2 b3 b4 b5 : Int) (w : World) :
    Calls Try.prog 33 #[.agg #[.string t1, .int .i64 a1, .int .i64 a2, .int .i64 a3, .int .i64 a4, .int .i64 a5], .agg #[.string t2, .int .i64 b1, .int .i64 b2, .int .i64 b3, .int .i64 b4, .int .i64 b5]] w fun e w' =>
      e = .returned (.bool (decide (0 < a5) && (decide (a5 ≤ b1) && decide (b1 < a2)))) ∧ ∃ o1 o2 : Array Value, w' = (w.alloc (.cells o1 53)).alloc (.cells o2 53) := by
  go_enter Try.func33, Try.ntmps33
  go_wp2
  all_goals
    go_ret
    exact ⟨ret_bool (by simp [*]; try omega), _, _, rfl⟩

/-- 'givesWayTo'. -/
theorem gives_any (v c : Cd) (w : World) :
    Calls Try.prog 33 #[.agg #[.string v.ty, .int .i64 v.st, .int .i64 v.en, .int .i64 v.rk, .int .i64 v.sz, .int .i64 v.sh], .agg #[.string c.ty, .int .i64 c.st, .int .i64 c.en, .int .i64 c.rk, .int .i64 c.sz, .int .i64 c.sh]] w fun e w' =>
      e = .returned (.bool (Mg.givesB v c)) ∧ ∃ o1 o2 : Array Value, w' = (w.alloc (.cells o1 53)).alloc (.cells o2 53) :=
  gives_raw _ _ _ _ _ _ _ _ _ _ _ _ w

theorem okS_1 (a b : Cd) : Mg.okS a b a.sh = true ↔ 0 < a.sh ∧ (b.en ≤ a.sh ∨ b.sh = a.sh) := by
  simp [Mg.okS]
theorem okS_2 (a b : Cd) : Mg.okS a b b.sh = true ↔ 0 < b.sh ∧ (a.en ≤ b.sh ∨ a.sh = b.sh) := by
  simp [Mg.okS]
theorem okS_1n (a b : Cd) (h : ¬ (0 < a.sh ∧ (b.en ≤ a.sh ∨ b.sh = a.sh))) : Mg.okS a b a.sh = false := by
  rw [← okS_1] at h; simpa using h
theorem okS_2n (a b : Cd) (h : ¬ (0 < b.sh ∧ (a.en ≤ b.sh ∨ a.sh = b.sh))) : Mg.okS a b b.sh = false := by
  rw [← okS_2] at h; simpa using h
theorem shared_1 {a b : Cd} (h : Mg.okS a b a.sh = true) : Mg.shared a b = a.sh := by simp [Mg.shared, h]
theorem shared_2 {a b : Cd} (h1 : Mg.okS a b a.sh = false) (h : Mg.okS a b b.sh = true) : Mg.shared a b = b.sh := by simp [Mg.shared, h, h1]
theorem shared_0 {a b : Cd} (h1 : Mg.okS a b a.sh = false) (h : Mg.okS a b b.sh = false) : Mg.shared a b = 0 := by simp [Mg.shared, h, h1]

set_option maxHeartbeats 1000000 in
theorem shared_raw (t1 t2 : ByteArray) (a1 a2 a3 a4 a5 b1 b2 b3 b4 b5 : Int) (w : World) :
    Calls Try.prog 34 #[.agg #[.string t1, .int .i64 a1, .int .i64 a2, .int .i64 a3, .int .i64 a4, .int .i64 a5], .agg #[.string t2, .int .i64 b1, .int .i64 b2, .int .i64 b3, .int .i64 b4, .int .i64 b5]] w fun e w' =>
      e = .returned (.int .i64 (Mg.shared ⟨t1, a1, a2, a3, a4, a5⟩ ⟨t2, b1, b2, b3, b4, b5⟩)) ∧ ∃ o1 o2 : Array Value, w' = (w.alloc (.cells o1 53)).alloc (.cells o2 53) := by
  have i0 : ∀ w, (Instr.index 59 (.agg #[.int .i64 a5, .int .i64 b5]) (.int .i64 0)).run Try.prog w = .ok (.int .i64 a5) w := fun _ => by kernel_rfl
  have i1 : ∀ w, (Instr.index 59 (.agg #[.int .i64 a5, .int .i64 b5]) (.int .i64 1)).run Try.prog w = .ok (.int .i64 b5) w := fun _ => by kernel_rfl
  go_enter Try.func34, Try.ntmps34
  go_wp2
  go_loop [12] (fun i => ∃ k : Nat, k ≤ 2 ∧ i = .int .i64 k ∧ (1 ≤ k → Mg.okS ⟨t1, a1, a2, a3, a4, a5⟩ ⟨t2, b1, b2, b3, b4, b5⟩ a5 = false) ∧ (2 ≤ k → Mg.okS ⟨t1, a1, a2, a3, a4, a5⟩ ⟨t2, b1, b2, b3, b4, b5⟩ b5 = false)) (fun i => 2 - (intOf i).toNat)
  case atStart => exact ⟨0, by omega, rfl, fun h => by omega, fun h => by omega⟩
  case round =>
    obtain ⟨k, hk, rfl, h1, h2⟩ := hrel
    rcases (show k = 0 ∨ k = 1 ∨ k = 2 by omega) with rfl | rfl | rfl
    · clear h1 h2
      by_cases hq : 0 < a5 ∧ (b2 ≤ a5 ∨ b5 = a5)
      · have HQ : Hid (Mg.shared ⟨t1, a1, a2, a3, a4, a5⟩ ⟨t2, b1, b2, b3, b4, b5⟩ = a5) := shared_1 (a := ⟨t1, a1, a2, a3, a4, a5⟩) (b := ⟨t2, b1, b2, b3, b4, b5⟩) ((okS_1 _ _).2 hq)
        obtain ⟨hq1, hq2⟩ := hq
        rcases hq2 with hq2 | hq2
        · go_wp2
          all_goals (go_ret; exact ⟨ret_int HQ.out.symm, _, _, rfl⟩)
        · subst hq2
          go_wp2
          all_goals (go_ret; exact ⟨ret_int HQ.out.symm, _, _, rfl⟩)
      · have HQ : Hid (Mg.okS ⟨t1, a1, a2, a3, a4, a5⟩ ⟨t2, b1, b2, b3, b4, b5⟩ a5 = false) := okS_1n (a := ⟨t1, a1, a2, a3, a4, a5⟩) (b := ⟨t2, b1, b2, b3, b4, b5⟩) hq
        by_cases hq1 : 0 < a5
        · have hq2 : a5 < b2 := by omega
          have hq3 : (b5 == a5) = false := by simp; omega
          clear hq
          go_wp2
          all_goals exact ⟨⟨1, by omega, rfl, fun _ => HQ.out, fun h => by omega⟩, by simp [intOf]⟩
        · clear hq
          go_wp2
          all_goals exact ⟨⟨1, by omega, rfl, fun _ => HQ.out, fun h => by omega⟩, by simp [intOf]⟩
    · have H1 : Hid (Mg.okS ⟨t1, a1, a2, a3, a4, a5⟩ ⟨t2, b1, b2, b3, b4, b5⟩ a5 = false) := h1 (by omega)
      clear h1 h2
      by_cases hq : 0 < b5 ∧ (a2 ≤ b5 ∨ a5 = b5)
      · have HQ : Hid (Mg.shared ⟨t1, a1, a2, a3, a4, a5⟩ ⟨t2, b1, b2, b3, b4, b5⟩ = b5) := shared_2 (a := ⟨t1, a1, a2, a3, a4, a5⟩) (b := ⟨t2, b1, b2, b3, b4, b5⟩) H1.out ((okS_2 _ _).2 hq)
        obtain ⟨hq1, hq2⟩ := hq
        rcases hq2 with hq2 | hq2
        · go_wp2
          all_goals (go_ret; exact ⟨ret_int HQ.out.symm, _, _, rfl⟩)
        · subst hq2
          go_wp2
          all_goals (go_ret; exact ⟨ret_int HQ.out.symm, _, _, rfl⟩)
      · have HQ : Hid (Mg.okS ⟨t1, a1, a2, a3, a4, a5⟩ ⟨t2, b1, b2, b3, b4, b5⟩ b5 = false) := okS_2n (a := ⟨t1, a1, a2, a3, a4, a5⟩) (b := ⟨t2, b1, b2, b3, b4, b5⟩) hq
        by_cases hq1 : 0 < b5
        · have hq2 : b5 < a2 := by omega
          have hq3 : (a5 == b5) = false := by simp; omega
          clear hq
          go_wp2
          all_goals exact ⟨⟨2, by omega, rfl, fun _ => H1.out, fun _ => HQ.out⟩, by simp [intOf]⟩
        · clear hq
          go_wp2
          all_goals exact ⟨⟨2, by omega, rfl, fun _ => H1.out, fun _ => HQ.out⟩, by simp [intOf]⟩
    · have H0 : Hid (Mg.shared ⟨t1, a1, a2, a3, a4, a5⟩ ⟨t2, b1, b2, b3, b4, b5⟩ = 0) := shared_0 (a := ⟨t1, a1, a2, a3, a4, a5⟩) (b := ⟨t2, b1, b2, b3, b4, b5⟩) (h1 (by omega)) (h2 (by omega))
      clear h1 h2
      go_wp2
      go_ret
      exact ⟨ret_int H0.out.symm, _, _, rfl⟩

/-- 'sharedShort'. -/
theorem shared_any (v c : Cd) (w : World) :
    Calls Try.prog 34 #[.agg #[.string v.ty, .int .i64 v.st, .int .i64 v.en, .int .i64 v.rk, .int .i64 v.sz, .int .i64 v.sh], .agg #[.string c.ty, .int .i64 c.st, .int .i64 c.en, .int .i64 c.rk, .int .i64 c.sz, .int .i64 c.sh]] w fun e w' =>
      e = .returned (.int .i64 (Mg.shared v c)) ∧ ∃ o1 o2 : Array Value, w' = (w.alloc (.cells o1 53)).alloc (.cells o2 53) :=
  shared_raw _ _ _ _ _ _ _ _ _ _ _ _ w

end Go.Proofs.Qxb6621684a
