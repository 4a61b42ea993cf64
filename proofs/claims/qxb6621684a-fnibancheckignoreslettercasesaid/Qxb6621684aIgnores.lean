/-
  'FnIbanCheckIgnoresLetterCase': THE WALK.
-/
import Derived.Test.Qxb6621684aIbanLower
namespace Go.Proofs.Qxb6621684a
open Go.RowKit

theorem inB_up : Ibn.inB 65 90 = Ibn.upB := rfl
theorem inB_low : Ibn.inB 97 122 = Ibn.lowB := rfl

/-- What the two feeds come to. -/
theorem feeds (s : ByteArray) (hal : ∀ c ∈ nums s, Ibn.Al c) : ∃ h hs r : Int,
    ⟨(s.size : Int), h, hs, r, (nums s).any Ibn.upB, (nums s).any Ibn.lowB⟩ = Ibn.feed (nums s) ∧
    ⟨(s.size : Int), h, hs, r, false, (nums s).any Ibn.upB || (nums s).any Ibn.lowB⟩ = Ibn.feed (nums (strOfNums (lowN s))) ∧ (∀ c ∈ nums (strOfNums (lowN s)), Ibn.Al c) ∧ (strOfNums (lowN s)).size = s.size := by
  have hn : nums (strOfNums (lowN s)) = lowN s := nums_strOf _ (fun c hc => by
    obtain ⟨d, hd, rfl⟩ := List.mem_map.1 hc
    have := Ibn.lower_al (hal d hd)
    unfold Ibn.Al at this
    omega)
  rw [hn]
  refine ⟨(Ibn.feed (nums s)).head, (Ibn.feed (nums s)).hs, (Ibn.feed (nums s)).rest, ?_, ?_, ?_, ?_⟩
  · have h1 := Ibn.feed_ln (nums s)
    rw [nums_len] at h1
    rw [← h1, ← Ibn.feed_up, ← Ibn.feed_low]
  · obtain ⟨e1, e2, e3⟩ := Ibn.feed_lower (nums s) hal
    have h1 := Ibn.feed_ln (lowN s)
    rw [lowN_len] at h1
    have h2 := Ibn.lower_up (nums s)
    have h3 := Ibn.lower_low (nums s)
    unfold lowN at *
    rw [← h1, ← e1, ← e2, ← e3, ← h3, ← h2]
  · intro c hc
    obtain ⟨d, hd, rfl⟩ := List.mem_map.1 hc
    exact Ibn.lower_al (hal d hd)
  · rw [strOfNums_size, lowN_len]

set_option maxRecDepth 100000 in
set_option maxHeartbeats 2000000 in
theorem ignores_walk (s : ByteArray) (hs : s.size ≤ maxLen) (w : World) :
    Calls Try.prog 5 #[.string s] w fun e w' => e = .returned (.bool true) ∧ Below w.heap.size w w' := by
  have HB : Hid (∀ w, Calls Try.prog 17 #[.string s] w fun e w' => SomeB e ∧ w' = w) := fun w => bytes17 s hs w
  unfold maxLen at hs
  go_enter Try.func5, Try.ntmps5
  go_wp2_with fail
  refine (HB.out _).mono ?_
  rintro e w ⟨⟨r, rfl⟩, rfl⟩
  clear HB
  cases r with
  | false =>
    go_wp2
    go_ret
    exact ⟨rfl, Below.refl _ _⟩
  | true =>
    by_cases hbig : 1048576 < (s.size : Int)
    · go_wp2
      all_goals (go_ret; exact ⟨rfl, Below.refl _ _⟩)
    · have hsz : s.size ≤ 1048576 := by omega
      have d1 : decide (1048576 < (s.size : Int)) = false := by simp; omega
      clear hbig hs
      go_wp2
      go_loop [3] (fun i => ∃ k : Nat, k ≤ s.size ∧ i = .int .i64 k ∧ ∀ c ∈ (nums s).take k, Ibn.Al c) (fun i => s.size - (intOf i).toNat)
      case atStart => exact ⟨0, Nat.zero_le _, rfl, fun c hc => by simp at hc⟩
      case round =>
        obtain ⟨k, hk, rfl, hal⟩ := hrel
        have HAL : Hid (∀ c ∈ (nums s).take k, Ibn.Al c) := hal
        clear hal
        by_cases hlt : k < s.size
        · cases hv : Ibn.alB ((s[k].toNat : Nat) : Int) with
          | false =>
            go_wp2_with fail
            refine (alnum_any _ _).mono ?_
            rintro e w' ⟨rfl, hw⟩
            subst hw
            go_wp2
            go_ret
            exact ⟨rfl, Below.refl _ _⟩
          | true =>
            have HAL2 : Hid (∀ c ∈ (nums s).take (k + 1), Ibn.Al c) := by
              show ∀ c ∈ (nums s).take (k + 1), Ibn.Al c
              rw [nums_take s k hlt]
              intro c hc
              rcases List.mem_append.1 hc with h | h
              · exact HAL.out c h
              · simp at h; subst h; exact alB_yes hv
            go_wp2_with fail
            refine (alnum_any _ _).mono ?_
            rintro e w' ⟨rfl, hw⟩
            subst hw
            go_wp2
            exact ⟨⟨k + 1, by omega, by go_num, HAL2.out⟩, by simp [intOf]; omega⟩
        · have hall : ∀ c ∈ nums s, Ibn.Al c := by
            have := HAL.out
            rwa [List.take_of_length_le (by rw [nums_len]; omega)] at this
          obtain ⟨h, hsc, r, hf1, hf2, hal2, hsz2⟩ := feeds s hall
          have hu := hasIn_any s (by omega) 65 90 _ rfl
          have hlw := hasIn_any s (by omega) 97 122 _ rfl
          rw [inB_up] at hu
          rw [inB_low] at hlw
          generalize (nums s).any Ibn.upB = U at *
          generalize (nums s).any Ibn.lowB = L at *
          have F1 := zzfeed_any s (by omega) hall _ hf1
          have F2 := zzfeed_any (strOfNums (lowN s)) (by omega) hal2 _ hf2
          dsimp only at F1 F2
          have G := lowered_any s (by omega)
          generalize strOfNums (lowN s) = t at *
          have HF1 : Hid (∀ w : World, Calls Try.prog 13 #[.string s] w fun e w' => e = .returned (.tuple #[.int .i64 (s.size : Int), .int .i64 h, .int .i64 hsc, .int .i64 r, .bool U, .bool L]) ∧ Below w.heap.size w w') := F1
          have HF2 : Hid (∀ w : World, Calls Try.prog 13 #[.string t] w fun e w' => e = .returned (.tuple #[.int .i64 (s.size : Int), .int .i64 h, .int .i64 hsc, .int .i64 r, .bool false, .bool (U || L)]) ∧ Below w.heap.size w w') := F2
          have HG : Hid (∀ w : World, Calls Try.prog 18 #[.string s] w fun e w' => e = .returned (.string t) ∧ Below w.heap.size w w') := G
          have HU : Hid (∀ w : World, Calls Try.prog 14 #[.string s, .int .u8 65, .int .u8 90] w fun e w' => e = .returned (.bool U) ∧ w' = w) := hu
          have HLW : Hid (∀ w : World, Calls Try.prog 14 #[.string s, .int .u8 97, .int .u8 122] w fun e w' => e = .returned (.bool L) ∧ w' = w) := hlw
          clear F1 F2 G hu hlw hf1 hf2 hal2 hsz2 hall HAL
          go_wp2_with fail
          refine (HG.out _).mono ?_
          rintro e w1 ⟨rfl, b1⟩
          have B1 : Hid (Below w.heap.size w w1) := b1
          clear b1
          go_wp2_with fail
          refine (HF1.out _).mono ?_
          rintro e w2 ⟨rfl, b2⟩
          have B2 : Hid (Below w.heap.size w w2) := B1.out.trans (b2.mono B1.out.size)
          clear b2
          go_wp2_with fail
          refine (HF2.out _).mono ?_
          rintro e w3 ⟨rfl, b3⟩
          have B3 : Hid (Below w.heap.size w w3) := B2.out.trans (b3.mono B2.out.size)
          clear b3
          go_wp2_with fail
          refine (HU.out _).mono ?_
          rintro e w4 ⟨rfl, hw⟩
          subst hw
          go_wp2_with fail
          refine (HLW.out _).mono ?_
          rintro e w5 ⟨rfl, hw⟩
          subst hw
          cases U <;> cases L
          all_goals
            go_wp2
            go_ret
            exact ⟨rfl, B3.out⟩

end Go.Proofs.Qxb6621684a
