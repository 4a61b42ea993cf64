/-
  'zzBytes_..' over slices of candidates: SOME bool, nothing written.
-/
import Derived.Test.Qxb6621684aSrc
import Derived.Test.Qxb6621684aSmall
namespace Go.Proofs.Qxb6621684a
open Go.RowKit

/-- It returned a bool. -/
def SomeBool (e : Ending) : Prop := ∃ r : Bool, e = .returned (.bool r)

set_option maxRecDepth 100000 in
set_option maxHeartbeats 2000000 in
theorem bytes19 (a : Option Addr) (n ca : Nat) (l : List Cd) (hn : l.length = n) (hbd : n ≤ maxLen) (w : World) (h1 : Src w a l) :
    Calls Try.prog 19 #[.slice a n ca] w fun e w' => SomeBool e ∧ w' = w := by
  unfold maxLen at hbd
  have HN : Hid (l.length = n) := hn
  have HA : Hid (Src w a l) := h1
  clear hn h1
  by_cases hbig : (1048576 : Int) < (n : Int)
  · go_enter Try.func19, Try.ntmps19
    go_wp2
    all_goals (go_ret; exact ⟨⟨_, rfl⟩, rfl⟩)
  · go_enter Try.func19, Try.ntmps19
    go_wp2
    go_loop [3, 4] (fun s i => ∃ (k : Nat) (t : Int), k ≤ n ∧ i = .int .i64 k ∧ s = .int .i64 t) (fun _ i => n - (intOf i).toNat)
    case atStart => exact ⟨0, _, Nat.zero_le _, rfl, rfl⟩
    case round =>
      obtain ⟨k, t, hk, rfl, rfl⟩ := hrel
      by_cases hlt : k < n
      · obtain ⟨b1, o1, e1, ha⟩ := HA.out k (by rw [HN.out]; exact hlt)
        subst e1
        obtain ⟨x, hx⟩ : ∃ x, x = l.getD k noCd := ⟨_, rfl⟩
        rw [← hx] at ha
        clear hx
        obtain ⟨a0, a1, a2, a3, a4, a5⟩ := ha
        clear a1 a2 a3 a4 a5
        go_wp2
        · go_ret; exact ⟨⟨_, rfl⟩, rfl⟩
        · go_ret; exact ⟨⟨_, rfl⟩, rfl⟩
        · exact ⟨⟨k + 1, _, by omega, by go_num, rfl⟩, by simp [intOf]; omega⟩
      · go_wp2
        go_ret
        exact ⟨⟨_, rfl⟩, rfl⟩

set_option maxRecDepth 100000 in
set_option maxHeartbeats 2000000 in
theorem bytes23 (a b : Option Addr) (n ca n2 cb : Nat) (l l2 : List Cd) (hn : l.length = n) (hbd : n ≤ maxLen) (hn2 : l2.length = n2) (hbd2 : n2 ≤ maxLen) (w : World) (h1 : Src w a l) (h2 : Src w b l2) :
    Calls Try.prog 23 #[.slice a n ca, .slice b n2 cb] w fun e w' => SomeBool e ∧ w' = w := by
  unfold maxLen at hbd hbd2
  have HN : Hid (l.length = n) := hn
  have HN2 : Hid (l2.length = n2) := hn2
  have HA : Hid (Src w a l) := h1
  have HB : Hid (Src w b l2) := h2
  clear hn h1 hn2 h2
  by_cases hbig : (1048576 : Int) < (n : Int)
  · go_enter Try.func23, Try.ntmps23
    go_wp2
    all_goals (go_ret; exact ⟨⟨_, rfl⟩, rfl⟩)
  · go_enter Try.func23, Try.ntmps23
    go_wp2
    go_loop [5, 6] (fun s i => ∃ (k : Nat) (t : Int), k ≤ n ∧ i = .int .i64 k ∧ s = .int .i64 t) (fun _ i => n - (intOf i).toNat)
    case atStart => exact ⟨0, _, Nat.zero_le _, rfl, rfl⟩
    case round =>
      obtain ⟨k, t, hk, rfl, rfl⟩ := hrel
      by_cases hlt : k < n
      · obtain ⟨b1, o1, e1, ha⟩ := HA.out k (by rw [HN.out]; exact hlt)
        subst e1
        obtain ⟨x, hx⟩ : ∃ x, x = l.getD k noCd := ⟨_, rfl⟩
        rw [← hx] at ha
        clear hx
        obtain ⟨a0, a1, a2, a3, a4, a5⟩ := ha
        clear a1 a2 a3 a4 a5
        go_wp2
        · go_ret; exact ⟨⟨_, rfl⟩, rfl⟩
        · go_ret; exact ⟨⟨_, rfl⟩, rfl⟩
        · exact ⟨⟨k + 1, _, by omega, by go_num, rfl⟩, by simp [intOf]; omega⟩
      · by_cases hbig2 : (1048576 : Int) < (n2 : Int)
        · go_wp2
          all_goals (go_ret; exact ⟨⟨_, rfl⟩, rfl⟩)
        · have hd : decide ((1048576 : Int) < (n2 : Int)) = false := by simpa using hbig2
          by_cases hb3 : (1048576 : Int) < wrap64 (t + n2)
          · go_wp2
            all_goals (go_ret; exact ⟨⟨_, rfl⟩, rfl⟩)
          · have hd3 : decide ((1048576 : Int) < wrap64 (t + n2)) = false := by simpa using hb3
            go_wp2
            go_loop [5, 7] (fun s i => ∃ (k : Nat) (t : Int), k ≤ n2 ∧ i = .int .i64 k ∧ s = .int .i64 t) (fun _ i => n2 - (intOf i).toNat)
            case atStart => exact ⟨0, _, Nat.zero_le _, rfl, rfl⟩
            case round =>
              obtain ⟨k', t', hk', rfl, rfl⟩ := hrel
              by_cases hlt' : k' < n2
              · obtain ⟨b1, o1, e1, ha⟩ := HB.out k' (by rw [HN2.out]; exact hlt')
                subst e1
                obtain ⟨x, hx⟩ : ∃ x, x = l2.getD k' noCd := ⟨_, rfl⟩
                rw [← hx] at ha
                clear hx
                obtain ⟨a0, a1, a2, a3, a4, a5⟩ := ha
                clear a1 a2 a3 a4 a5
                go_wp2
                · go_ret; exact ⟨⟨_, rfl⟩, rfl⟩
                · go_ret; exact ⟨⟨_, rfl⟩, rfl⟩
                · exact ⟨⟨k' + 1, _, by omega, by go_num, rfl⟩, by simp [intOf]; omega⟩
              · go_wp2
                go_ret
                exact ⟨⟨_, rfl⟩, rfl⟩

end Go.Proofs.Qxb6621684a
