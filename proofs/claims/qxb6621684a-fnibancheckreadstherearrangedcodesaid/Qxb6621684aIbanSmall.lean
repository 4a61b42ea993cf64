import Derived.Test.Qxb6621684aIbanFeed
import Derived.Deep.OwnRows
import Derived.Laws.BytesArg
namespace Go.Proofs.Qxb6621684a
open Go.RowKit

theorem Ibn.ret_bool {a b : Bool} (h : a = b) : Ending.returned (.bool a) = .returned (.bool b) := by rw [h]
def Ibn.alB (c : Int) : Bool := Ibn.digB c || (Ibn.upB c || Ibn.lowB c)
theorem alB_yes {c : Int} (h : Ibn.alB c = true) : Ibn.Al c := by
  simp only [Ibn.alB, Ibn.digB, Ibn.upB, Ibn.lowB, Bool.or_eq_true, Bool.and_eq_true, decide_eq_true_eq] at h
  exact h
theorem alB_of {c : Int} (h : Ibn.Al c) : Ibn.alB c = true := by
  simp only [Ibn.alB, Ibn.digB, Ibn.upB, Ibn.lowB, Bool.or_eq_true, Bool.and_eq_true, decide_eq_true_eq]
  exact h
theorem alB_no {c : Int} (h : ¬ Ibn.Al c) : Ibn.alB c = false := by
  cases e : Ibn.alB c with
  | false => rfl
  | true => exact absurd (alB_yes e) h

set_option maxHeartbeats 400000 in
/-- 'zzAlnum'. -/
theorem alnum_any (c : Int) (w : World) : Calls Try.prog 12 #[.int .u8 c] w fun e w' => e = .returned (.bool (Ibn.alB c)) ∧ w' = w := by
  rcases (show (c < 48 ∨ (57 < c ∧ c < 65) ∨ (90 < c ∧ c < 97) ∨ 122 < c) ∨ ((48 ≤ c ∧ c ≤ 57) ∨ (65 ≤ c ∧ c ≤ 90) ∨ (97 ≤ c ∧ c ≤ 122)) by omega) with h | h
  · have e : Ibn.alB c = false := alB_no (by unfold Ibn.Al; omega)
    rw [e]
    clear e
    rcases h with h | ⟨h, h'⟩ | ⟨h, h'⟩ | h
    all_goals
      go_enter Try.func12, Try.ntmps12
      go_wp2
      go_ret
      first | exact ⟨rfl, rfl⟩ | exact ⟨Ibn.ret_bool (by simp; omega), rfl⟩
  · have e : Ibn.alB c = true := alB_of h
    rw [e]
    clear e
    rcases h with ⟨h, h'⟩ | ⟨h, h'⟩ | ⟨h, h'⟩
    all_goals
      go_enter Try.func12, Try.ntmps12
      go_wp2
      go_ret
      exact ⟨rfl, rfl⟩

def Ibn.inB (lo hi c : Int) : Bool := decide (lo ≤ c) && decide (c ≤ hi)
theorem any_take (s : ByteArray) (p : Int → Bool) (k : Nat) (h : k < s.size) : ((nums s).take (k + 1)).any p = (((nums s).take k).any p || p ((s[k].toNat : Nat) : Int)) := by
  rw [nums_take s k h]; simp
theorem any_yes (s : ByteArray) (p : Int → Bool) (k : Nat) (h : k < s.size) (hp : p ((s[k].toNat : Nat) : Int) = true) : (nums s).any p = true :=
  List.any_eq_true.2 ⟨_, List.mem_of_getElem? (nums_at s k h), hp⟩

set_option maxRecDepth 100000 in
set_option maxHeartbeats 400000 in
/-- 'zzHasIn'. -/
theorem hasIn_any (s : ByteArray) (hs : s.size ≤ 1100000) (lo hi : Int) (r : Bool) (hr : r = (nums s).any (Ibn.inB lo hi)) (w : World) :
    Calls Try.prog 14 #[.string s, .int .u8 lo, .int .u8 hi] w fun e w' => e = .returned (.bool r) ∧ w' = w := by
  have HR : Hid (r = (nums s).any (Ibn.inB lo hi)) := hr
  clear hr
  go_enter Try.func14, Try.ntmps14
  go_wp2
  go_loop [7] (fun i => ∃ k : Nat, k ≤ s.size ∧ i = .int .i64 k ∧ ((nums s).take k).any (Ibn.inB lo hi) = false) (fun i => s.size - (intOf i).toNat)
  case atStart => exact ⟨0, Nat.zero_le _, rfl, rfl⟩
  case round =>
    obtain ⟨k, hk, rfl, hno⟩ := hrel
    have HNO : Hid (((nums s).take k).any (Ibn.inB lo hi) = false) := hno
    clear hno
    by_cases hlt : k < s.size
    · by_cases h1 : lo ≤ ((s[k].toNat : Nat) : Int)
      · by_cases h2 : ((s[k].toNat : Nat) : Int) ≤ hi
        · have e : r = true := by rw [HR.out]; exact any_yes s _ k hlt (by simp [Ibn.inB, h1, h2])
          subst e
          go_wp2
          go_ret
          exact ⟨rfl, rfl⟩
        · have HNO2 : Hid (((nums s).take (k + 1)).any (Ibn.inB lo hi) = false) := by
            show _ = _
            rw [any_take s _ k hlt, HNO.out]; simp [Ibn.inB, h2]
          have h2' : hi < ((s[k].toNat : Nat) : Int) := by omega
          go_wp2
          exact ⟨⟨k + 1, by omega, by go_num, HNO2.out⟩, by simp [intOf]; omega⟩
      · have HNO2 : Hid (((nums s).take (k + 1)).any (Ibn.inB lo hi) = false) := by
          show _ = _
          rw [any_take s _ k hlt, HNO.out]; simp [Ibn.inB, h1]
        have h1' : ((s[k].toNat : Nat) : Int) < lo := by omega
        go_wp2
        exact ⟨⟨k + 1, by omega, by go_num, HNO2.out⟩, by simp [intOf]; omega⟩
    · have e : r = false := by rw [HR.out, ← HNO.out, List.take_of_length_le (by rw [nums_len]; omega)]
      subst e
      go_wp2
      go_ret
      exact ⟨rfl, rfl⟩

/-- It returned a bool. -/
def SomeB (e : Ending) : Prop := ∃ r : Bool, e = .returned (.bool r)
set_option maxHeartbeats 400000 in
theorem bytes17 (s : ByteArray) (hs : s.size ≤ maxLen) (w : World) : Calls Try.prog 17 #[.string s] w fun e w' => SomeB e ∧ w' = w := by
  unfold maxLen at hs
  by_cases h : 1048576 < (s.size : Int)
  · go_enter Try.func17, Try.ntmps17
    go_wp2
    all_goals (go_ret; exact ⟨⟨_, rfl⟩, rfl⟩)
  · go_enter Try.func17, Try.ntmps17
    go_wp2
    all_goals (go_ret; exact ⟨⟨_, rfl⟩, rfl⟩)
set_option maxHeartbeats 400000 in
theorem bytes11 (s : ByteArray) (hs : s.size ≤ maxLen) (w : World) : Calls Try.prog 11 #[.string s] w fun e w' => SomeB e ∧ w' = w := by
  unfold maxLen at hs
  by_cases h : 1048576 < (s.size : Int)
  · go_enter Try.func11, Try.ntmps11
    go_wp2
    all_goals (go_ret; exact ⟨⟨_, rfl⟩, rfl⟩)
  · go_enter Try.func11, Try.ntmps11
    go_wp2
    all_goals (go_ret; exact ⟨⟨_, rfl⟩, rfl⟩)

end Go.Proofs.Qxb6621684a
