/-
  'zzIsDigit', 'zzCodeDigits', 'zzMod97Char': THE WALKS.
-/
import Derived.Test.Qxb6621684aIbanSmall
import Derived.Test.Qxb6621684aIbanMod
namespace Go.Proofs.Qxb6621684a
open Go.RowKit

/-- 'zzIsDigit'. -/
theorem zzIsDigit_any (c : Int) (w : World) : Calls Try.prog 26 #[.int .u8 c] w fun e w' => e = .returned (.bool (Ibn.digB c)) ∧ w' = w := by
  by_cases h1 : 48 ≤ c
  · by_cases h2 : c ≤ 57
    · have e : Ibn.digB c = true := by simp [Ibn.digB, h1, h2]
      rw [e]
      go_enter Try.func26, Try.ntmps26
      go_wp2
      go_ret
      exact ⟨rfl, rfl⟩
    · have e : Ibn.digB c = false := by simp [Ibn.digB, h2]
      have h2' : 57 < c := by omega
      rw [e]
      go_enter Try.func26, Try.ntmps26
      go_wp2
      go_ret
      exact ⟨rfl, rfl⟩
  · have e : Ibn.digB c = false := by simp [Ibn.digB, h1]
    have h1' : c < 48 := by omega
    rw [e]
    go_enter Try.func26, Try.ntmps26
    go_wp2
    go_ret
    exact ⟨rfl, rfl⟩

/-- 'zzCodeDigits' of a digit. -/
theorem code_dig (c : Int) (h1 : 48 ≤ c) (h2 : c ≤ 57) (w : World) : Calls Try.prog 15 #[.int .u8 c] w fun e w' => e = .returned (.tuple #[.int .i64 0, .int .i64 (c - 48), .bool false]) ∧ w' = w := by
  have e : Ibn.digB c = true := by simp [Ibn.digB, h1, h2]
  go_enter Try.func15, Try.ntmps15
  go_wp2_with fail
  refine (zzIsDigit_any c _).mono ?_
  rintro e w' ⟨rfl, hw⟩
  subst hw
  go_wp2
  go_ret3
  exact ⟨rfl, rfl⟩
/-- 'zzCodeDigits' of a letter. -/
theorem code_let (c v : Int) (hc : (65 ≤ c ∧ c ≤ 90 ∧ v = c - 65 + 10) ∨ (97 ≤ c ∧ c ≤ 122 ∧ v = c - 97 + 10)) (w : World) : Calls Try.prog 15 #[.int .u8 c] w fun e w' => e = .returned (.tuple #[.int .i64 (v / 10), .int .i64 (v % 10), .bool true]) ∧ w' = w := by
  have e : Ibn.digB c = false := by
    have : ¬ c ≤ 57 := by omega
    simp [Ibn.digB, this]
  rcases hc with ⟨h1, h2, h3⟩ | ⟨h1, h2, h3⟩
  · subst h3
    go_enter Try.func15, Try.ntmps15
    go_wp2_with fail
    refine (zzIsDigit_any c _).mono ?_
    rintro e w' ⟨rfl, hw⟩
    subst hw
    go_wp2
    go_ret3
    exact ⟨rfl, rfl⟩
  · subst h3
    go_enter Try.func15, Try.ntmps15
    go_wp2_with fail
    refine (zzIsDigit_any c _).mono ?_
    rintro e w' ⟨rfl, hw⟩
    subst hw
    go_wp2
    go_ret3
    exact ⟨rfl, rfl⟩

theorem kinds {c : Int} (h : Ibn.Al c) : (48 ≤ c ∧ c ≤ 57 ∧ Ibn.scale c = 10 ∧ Ibn.val c = c - 48) ∨
    (∃ v, ((65 ≤ c ∧ c ≤ 90 ∧ v = c - 65 + 10) ∨ (97 ≤ c ∧ c ≤ 122 ∧ v = c - 97 + 10)) ∧ 10 ≤ v ∧ v ≤ 35 ∧ Ibn.scale c = 100 ∧ Ibn.val c = v) := by
  unfold Ibn.Al at h
  rcases h with ⟨h1, h2⟩ | ⟨h1, h2⟩ | ⟨h1, h2⟩
  · obtain ⟨a, b, _⟩ := kind_dig h1 h2
    exact .inl ⟨h1, h2, a, b⟩
  · obtain ⟨a, b, _⟩ := kind_up h1 h2
    exact .inr ⟨_, .inl ⟨h1, h2, rfl⟩, by omega, by omega, a, b⟩
  · obtain ⟨a, b, _⟩ := kind_low h1 h2
    exact .inr ⟨_, .inr ⟨h1, h2, rfl⟩, by omega, by omega, a, b⟩

theorem ret_i64 {a b : Int} (h : a = b) : Ending.returned (.int .i64 a) = .returned (.int .i64 b) := by rw [h]

/-- 'zzMod97Char'. -/
theorem mod97_any (m c : Int) (h0 : 0 ≤ m) (h1 : m < 97) (hc : Ibn.Al c) (r : Int) (hr : r = Ibn.modc m c) (w : World) : Calls Try.prog 16 #[.int .i64 m, .int .u8 c] w fun e w' => e = .returned (.int .i64 r) ∧ w' = w := by
  rcases kinds hc with ⟨k1, k2, k3, k4⟩ | ⟨v, hv, k1, k2, k3, k4⟩
  · have HR : Hid (r = (m * 10 + (c - 48)) % 97) := by
      show r = _
      rw [hr, Ibn.modc, k3, k4]
    clear hr k3 k4 hc
    go_enter Try.func16, Try.ntmps16
    go_wp2_with fail
    refine (code_dig c k1 k2 _).mono ?_
    rintro e w' ⟨rfl, hw⟩
    subst hw
    go_wp2
    go_ret
    exact ⟨ret_i64 (by rw [HR.out]), rfl⟩
  · have HR : Hid (r = ((m * 10 + v / 10) % 97 * 10 + v % 10) % 97) := by
      show r = _
      rw [hr, Ibn.modc, k3, k4]
      omega
    clear hr k3 k4 hc
    go_enter Try.func16, Try.ntmps16
    go_wp2_with fail
    refine (code_let c v hv _).mono ?_
    rintro e w' ⟨rfl, hw⟩
    subst hw
    go_wp2
    go_ret
    exact ⟨ret_i64 (by rw [HR.out]), rfl⟩

end Go.Proofs.Qxb6621684a
