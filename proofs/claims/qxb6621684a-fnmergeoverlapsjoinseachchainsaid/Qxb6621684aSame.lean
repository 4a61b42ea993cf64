/-
  'zzSameCands' over two slices that hold the same candidates: true.
-/
import Derived.Test.Qxb6621684aSrc
import Derived.Test.Qxb6621684aSmall
namespace Go.Proofs.Qxb6621684a
open Go.RowKit

set_option maxRecDepth 100000 in
set_option maxHeartbeats 2000000 in
theorem same_any (a b : Option Addr) (n ca cb : Nat) (l : List Cd) (hn : l.length = n) (hbd : n ≤ 1000000000) (w : World) (h1 : Src w a l) (h2 : Src w b l) :
    Calls Try.prog 22 #[.slice a n ca, .slice b n cb] w fun e w' => e = .returned (.bool true) ∧ ∃ m, w' = w.drewN m := by
  have HN : Hid (l.length = n) := hn
  have HA : Hid (Src w a l) := h1
  have HB : Hid (Src w b l) := h2
  clear hn h1 h2
  go_enter Try.func22, Try.ntmps22
  go_wp2
  go_loopw [5] (fun i wr => ∃ k : Nat, k ≤ n ∧ i = .int .i64 k ∧ ∃ m, wr = w.drewN m) (fun i _ => n - (intOf i).toNat)
  case atStart => exact ⟨0, Nat.zero_le _, rfl, 0, rfl⟩
  case round =>
    obtain ⟨k, hk, rfl, m, rfl⟩ := hrel
    by_cases hlt : k < n
    · obtain ⟨b1, o1, e1, ha⟩ := HA.out k (by rw [HN.out]; exact hlt)
      obtain ⟨b2, o2, e2, hb⟩ := HB.out k (by rw [HN.out]; exact hlt)
      subst e1
      subst e2
      obtain ⟨x, hx⟩ : ∃ x, x = l.getD k noCd := ⟨_, rfl⟩
      rw [← hx] at ha hb
      clear hx
      obtain ⟨a0, a1, a2, a3, a4, a5⟩ := ha
      obtain ⟨c0, c1, c2, c3, c4, c5⟩ := hb
      have i0 : (0 : Int) ≤ (k : Int) := by omega
      have i1 : (k : Int) < (n : Int) := by omega
      go_wp2_with fail
      go_quiet (fail)
      go_wp2_with fail
      go_quiet (fail)
      go_wp2
      exact ⟨⟨k + 1, by omega, by go_num, _, rfl⟩, by simp [intOf]; omega⟩
    · go_wp2
      go_ret
      exact ⟨rfl, m, rfl⟩

end Go.Proofs.Qxb6621684a
