/-
  'FnIbanCheckReadsTheRearrangedCode': THE WALK.
-/
import Derived.Test.Qxb6621684aIbanCode
namespace Go.Proofs.Qxb6621684a
open Go.RowKit

theorem in_up : Ibn.inB 65 90 = Ibn.upB := rfl
theorem in_low : Ibn.inB 97 122 = Ibn.lowB := rfl
theorem fold_take (s : ByteArray) (k : Nat) (h4 : 4 ≤ k) (h : k < s.size) : (((nums s).take (k + 1)).drop 4).foldl Ibn.modc 0 = Ibn.modc ((((nums s).take k).drop 4).foldl Ibn.modc 0) ((s[k].toNat : Nat) : Int) := by
  have hl : 4 ≤ ((nums s).take k).length := by rw [List.length_take, nums_len]; omega
  rw [nums_take s k h, List.drop_append_of_le_length hl, List.foldl_append]
  rfl
theorem fold_take2 (s : ByteArray) (m : Int) (k : Nat) (h : k < s.size) : ((nums s).take (k + 1)).foldl Ibn.modc m = Ibn.modc (((nums s).take k).foldl Ibn.modc m) ((s[k].toNat : Nat) : Int) := by
  rw [nums_take s k h, List.foldl_append]
  rfl
theorem hd_take (s : ByteArray) (k : Nat) (h : k < s.size) : Ibn.hd ((nums s).take (k + 1)) = Ibn.hd1 (Ibn.hd ((nums s).take k)) ((s[k].toNat : Nat) : Int) := by
  rw [nums_take s k h, Ibn.hd_snoc]

set_option maxRecDepth 100000 in
set_option maxHeartbeats 4000000 in
theorem reads_walk (s : ByteArray) (hs : s.size ≤ maxLen) (w : World) :
    Calls Try.prog 4 #[.string s] w fun e w' => e = .returned (.bool true) ∧ Below w.heap.size w w' := by
  have HB : Hid (∀ w, Calls Try.prog 11 #[.string s] w fun e w' => SomeB e ∧ w' = w) := fun w => bytes11 s hs w
  unfold maxLen at hs
  go_enter Try.func4, Try.ntmps4
  go_wp2_with fail
  refine (HB.out _).mono ?_
  rintro e w ⟨⟨r, rfl⟩, rfl⟩
  clear HB
  cases r with
  | false =>
    go_wp2
    go_ret
    exact ⟨rfl, Below.refl _ _⟩
  | true =>
    by_cases hbig : 1048576 < (s.size : Int)
    · go_wp2
      all_goals (go_ret; exact ⟨rfl, Below.refl _ _⟩)
    · have hsz : s.size ≤ 1048576 := by omega
      have d1 : decide (1048576 < (s.size : Int)) = false := by simp; omega
      clear hbig hs
      go_wp2
      go_loop [3] (fun i => ∃ k : Nat, k ≤ s.size ∧ i = .int .i64 k ∧ ∀ c ∈ (nums s).take k, Ibn.Al c) (fun i => s.size - (intOf i).toNat)
      case atStart => exact ⟨0, Nat.zero_le _, rfl, fun c hc => by simp at hc⟩
      case round =>
        obtain ⟨k, hk, rfl, hal⟩ := hrel
        have HAL : Hid (∀ c ∈ (nums s).take k, Ibn.Al c) := hal
        clear hal
        by_cases hlt : k < s.size
        · cases hv : Ibn.alB ((s[k].toNat : Nat) : Int) with
          | false =>
            go_wp2_with fail
            refine (alnum_any _ _).mono ?_
            rintro e w' ⟨rfl, hw⟩
            subst hw
            go_wp2
            go_ret
            exact ⟨rfl, Below.refl _ _⟩
          | true =>
            have HAL2 : Hid (∀ c ∈ (nums s).take (k + 1), Ibn.Al c) := by
              show ∀ c ∈ (nums s).take (k + 1), Ibn.Al c
              rw [nums_take s k hlt]
              intro c hc
              rcases List.mem_append.1 hc with h | h
              · exact HAL.out c h
              · simp at h; subst h; exact alB_yes hv
            go_wp2_with fail
            refine (alnum_any _ _).mono ?_
            rintro e w' ⟨rfl, hw⟩
            subst hw
            go_wp2
            exact ⟨⟨k + 1, by omega, by go_num, HAL2.out⟩, by simp [intOf]; omega⟩
        · have hall : ∀ c ∈ nums s, Ibn.Al c := by
            have := HAL.out
            rwa [List.take_of_length_le (by rw [nums_len]; omega)] at this
          have HALL : Hid (∀ c ∈ nums s, Ibn.Al c) := hall
          have hu := hasIn_any s (by omega) 65 90 _ rfl
          have hlw := hasIn_any s (by omega) 97 122 _ rfl
          rw [in_up] at hu
          rw [in_low] at hlw
          have hln := Ibn.feed_ln (nums s)
          rw [nums_len] at hln
          have hup := Ibn.feed_up (nums s)
          have hlo := Ibn.feed_low (nums s)
          have hfi := Ibn.feed_fine (nums s) hall
          have F1 := zzfeed_any s (by omega) hall _ rfl
          rw [← hup] at hu
          rw [← hlo] at hlw
          rw [hln] at F1
          obtain ⟨h, hh⟩ : ∃ h, h = (Ibn.feed (nums s)).head := ⟨_, rfl⟩
          obtain ⟨hsc, hhs⟩ : ∃ h, h = (Ibn.feed (nums s)).hs := ⟨_, rfl⟩
          obtain ⟨r, hr⟩ : ∃ h, h = (Ibn.feed (nums s)).rest := ⟨_, rfl⟩
          have hr0 := hfi.r0
          have hr1 := hfi.r1
          rw [← hh, ← hhs, ← hr] at F1
          rw [← hr] at hr0 hr1
          have HH : Hid (h = (Ibn.feed (nums s)).head) := hh
          have HHS : Hid (hsc = (Ibn.feed (nums s)).hs) := hhs
          have HR : Hid (r = (Ibn.feed (nums s)).rest) := hr
          clear hup hlo hfi hln hh hhs hr hall
          generalize (Ibn.feed (nums s)).up = U at *
          generalize (Ibn.feed (nums s)).low = L at *
          have HF1 : Hid (∀ w : World, Calls Try.prog 13 #[.string s] w fun e w' => e = .returned (.tuple #[.int .i64 (s.size : Int), .int .i64 h, .int .i64 hsc, .int .i64 r, .bool U, .bool L]) ∧ Below w.heap.size w w') := F1
          have HU : Hid (∀ w : World, Calls Try.prog 14 #[.string s, .int .u8 65, .int .u8 90] w fun e w' => e = .returned (.bool U) ∧ w' = w) := hu
          have HLW : Hid (∀ w : World, Calls Try.prog 14 #[.string s, .int .u8 97, .int .u8 122] w fun e w' => e = .returned (.bool L) ∧ w' = w) := hlw
          clear F1 hu hlw HAL
          go_wp2_with fail
          refine (HF1.out _).mono ?_
          rintro e w1 ⟨rfl, b1⟩
          have B1 : Hid (Below w.heap.size w w1) := b1
          clear b1 HF1
          go_wp2_with fail
          refine (HU.out _).mono ?_
          rintro e w4 ⟨rfl, hw⟩
          subst hw
          have hU : (U != U) = false := by simp
          have hL : (L != L) = false := by simp
          go_wp2_with fail
          refine (HLW.out _).mono ?_
          rintro e w5 ⟨rfl, hw⟩
          subst hw
          clear HU HLW
          rcases (show s.size = 0 ∨ (0 < s.size ∧ s.size ≤ 4) ∨ 4 < s.size by omega) with hn | ⟨hn1, hn2⟩ | hn
          · have hnil : nums s = [] := List.eq_nil_of_length_eq_zero (by rw [nums_len]; exact hn)
            have y1 := HH.out
            have y2 := HHS.out
            have y3 := HR.out
            rw [hnil] at y1 y2 y3
            have y1' : h = 0 := y1
            have y2' : hsc = 0 := y2
            have y3' : r = 0 := y3
            clear y1 y2 y3 HH HHS HR hnil
            subst y1' y2' y3'
            go_wp2
            refine wp_loop_rounds 1 ?_
            rw [rounds_succ]
            go_wp2
            go_ret
            exact ⟨rfl, B1.out⟩
          · have x1 : decide ((4 : Int) < (s.size : Int)) = false := by simp; omega
            have x2 : (0 : Int) < (s.size : Int) := by omega
            have x3 : (s.size : Int) ≤ 4 := by omega
            go_wp2
            go_loop [12, 13, 14] (fun a b i => ∃ (i' : Nat) (H S : Int), i' ≤ s.size ∧ i = .int .i64 i' ∧ a = .int .i64 H ∧ b = .int .i64 S ∧ (H, S) = Ibn.hd ((nums s).take i')) (fun _ _ i => s.size - (intOf i).toNat)
            case atStart => exact ⟨0, 0, 1, Nat.zero_le _, rfl, rfl, rfl, rfl⟩
            case round =>
              obtain ⟨i, H, S, hi, rfl, rfl, rfl, hHS⟩ := hrel
              have HHS2 : Hid ((H, S) = Ibn.hd ((nums s).take i)) := hHS
              obtain ⟨p0, p1, p2, p3, p4⟩ := Ibn.hd_bd (nums s) HALL.out i (by omega) (by rw [nums_len]; omega)
              rw [← hHS] at p0 p1 p2 p3 p4
              simp only at p0 p1 p2 p3 p4
              clear hHS
              by_cases hiK : i < s.size
              · have his : i < s.size := by omega
                obtain ⟨q1, q2⟩ := p2 (by omega)
                have hnx := hd_take s i his
                rw [← HHS2.out] at hnx
                unfold Ibn.hd1 at hnx
                simp only at hnx
                clear p2
                rcases kinds (HALL.out _ (List.mem_of_getElem? (nums_at s i his))) with ⟨k1, k2, k3, k4⟩ | ⟨v, hv, k1, k2, k3, k4⟩
                · rw [k3, k4] at hnx
                  have HNX : Hid (Ibn.hd ((nums s).take (i + 1)) = (H * 10 + (((s[i].toNat : Nat) : Int) - 48), S * 10)) := hnx
                  clear hnx k3 k4
                  go_wp2_with fail
                  refine (code_dig _ k1 k2 _).mono ?_
                  rintro e w6 ⟨rfl, hw⟩
                  subst hw
                  go_wp2
                  go_round
                  case rel => exact ⟨i + 1, _, _, by omega, by go_num, rfl, rfl, HNX.out.symm⟩
                  case measure => simp [intOf]; omega
                · rw [k3, k4] at hnx
                  have HNX : Hid (Ibn.hd ((nums s).take (i + 1)) = ((H * 10 + v / 10) * 10 + v % 10, S * 10 * 10)) := by
                    show _ = _
                    rw [hnx]
                    exact Prod.ext (by show H * 100 + v = _; omega) (by show S * 100 = _; omega)
                  have HV : Hid ((65 ≤ ((s[i].toNat : Nat) : Int) ∧ ((s[i].toNat : Nat) : Int) ≤ 90 ∧ v = ((s[i].toNat : Nat) : Int) - 65 + 10) ∨ (97 ≤ ((s[i].toNat : Nat) : Int) ∧ ((s[i].toNat : Nat) : Int) ≤ 122 ∧ v = ((s[i].toNat : Nat) : Int) - 97 + 10)) := hv
                  clear hnx k3 k4 hv
                  go_wp2_with fail
                  refine (code_let _ v HV.out _).mono ?_
                  rintro e w6 ⟨rfl, hw⟩
                  subst hw
                  go_wp2
                  go_round
                  case rel => exact ⟨i + 1, _, _, by omega, by go_num, rfl, rfl, HNX.out.symm⟩
                  case measure => simp [intOf]; omega
              · have hie : i = s.size := by omega
                subst hie
                have hpar := Ibn.feed_parts (nums s) (by rw [nums_len]; omega)
                have ht4 : (nums s).take 4 = (nums s).take s.size := by
                  rw [List.take_of_length_le (by rw [nums_len]; omega), List.take_of_length_le (by rw [nums_len]; omega)]
                rw [ht4, ← HHS2.out, ← HH.out, ← HHS.out, ← HR.out] at hpar
                have hd4 : (nums s).drop 4 = [] := List.drop_eq_nil_of_le (by rw [nums_len]; omega)
                rw [hd4] at hpar
                obtain ⟨y1, y2, y3⟩ := hpar
                have y3' : r = 0 := y3
                simp only at y1 y2
                clear y3 ht4 hd4 HHS2 HH HHS HR p2
                subst y1 y2 y3'
                have e1 : (h != h) = false := by simp
                have e2 : (hsc != hsc) = false := by simp
                go_wp2
                go_ret
                exact ⟨rfl, B1.out⟩
          · have x1 : (4 : Int) < (s.size : Int) := by omega
            have x5 : 0 < s.size := by omega
            have x3 : decide ((4 : Int) < (s.size : Int)) = true := by simp; omega
            have x4 : decide ((0 : Int) < (s.size : Int)) = true := by simp; omega
            have x2 : (0 : Int) < (s.size : Int) := by omega
            go_wp2
            go_loop [12, 13, 14] (fun a b i => ∃ (i' : Nat) (H S : Int), i' ≤ 4 ∧ i = .int .i64 i' ∧ a = .int .i64 H ∧ b = .int .i64 S ∧ (H, S) = Ibn.hd ((nums s).take i')) (fun _ _ i => 4 - (intOf i).toNat)
            case atStart => exact ⟨0, 0, 1, Nat.zero_le _, rfl, rfl, rfl, rfl⟩
            case round =>
              obtain ⟨i, H, S, hi, rfl, rfl, rfl, hHS⟩ := hrel
              have HHS2 : Hid ((H, S) = Ibn.hd ((nums s).take i)) := hHS
              obtain ⟨p0, p1, p2, p3, p4⟩ := Ibn.hd_bd (nums s) HALL.out i (by omega) (by rw [nums_len]; omega)
              rw [← hHS] at p0 p1 p2 p3 p4
              simp only at p0 p1 p2 p3 p4
              clear hHS
              by_cases hiK : i < 4
              · have his : i < s.size := by omega
                obtain ⟨q1, q2⟩ := p2 (by omega)
                have hnx := hd_take s i his
                rw [← HHS2.out] at hnx
                unfold Ibn.hd1 at hnx
                simp only at hnx
                clear p2
                rcases kinds (HALL.out _ (List.mem_of_getElem? (nums_at s i his))) with ⟨k1, k2, k3, k4⟩ | ⟨v, hv, k1, k2, k3, k4⟩
                · rw [k3, k4] at hnx
                  have HNX : Hid (Ibn.hd ((nums s).take (i + 1)) = (H * 10 + (((s[i].toNat : Nat) : Int) - 48), S * 10)) := hnx
                  clear hnx k3 k4
                  go_wp2_with fail
                  refine (code_dig _ k1 k2 _).mono ?_
                  rintro e w6 ⟨rfl, hw⟩
                  subst hw
                  go_wp2
                  go_round
                  case rel => exact ⟨i + 1, _, _, by omega, by go_num, rfl, rfl, HNX.out.symm⟩
                  case measure => simp [intOf]; omega
                · rw [k3, k4] at hnx
                  have HNX : Hid (Ibn.hd ((nums s).take (i + 1)) = ((H * 10 + v / 10) * 10 + v % 10, S * 10 * 10)) := by
                    show _ = _
                    rw [hnx]
                    exact Prod.ext (by show H * 100 + v = _; omega) (by show S * 100 = _; omega)
                  have HV : Hid ((65 ≤ ((s[i].toNat : Nat) : Int) ∧ ((s[i].toNat : Nat) : Int) ≤ 90 ∧ v = ((s[i].toNat : Nat) : Int) - 65 + 10) ∨ (97 ≤ ((s[i].toNat : Nat) : Int) ∧ ((s[i].toNat : Nat) : Int) ≤ 122 ∧ v = ((s[i].toNat : Nat) : Int) - 97 + 10)) := hv
                  clear hnx k3 k4 hv
                  go_wp2_with fail
                  refine (code_let _ v HV.out _).mono ?_
                  rintro e w6 ⟨rfl, hw⟩
                  subst hw
                  go_wp2
                  go_round
                  case rel => exact ⟨i + 1, _, _, by omega, by go_num, rfl, rfl, HNX.out.symm⟩
                  case measure => simp [intOf]; omega
              · have hie : i = 4 := by omega
                subst hie
                have hpar := Ibn.feed_parts (nums s) (by rw [nums_len]; omega)
                rw [← HHS2.out, ← HH.out, ← HHS.out, ← HR.out] at hpar
                obtain ⟨y1, y2, y3⟩ := hpar
                simp only at y1 y2
                have HR3 : Hid (r = ((nums s).drop 4).foldl Ibn.modc 0) := y3
                have hre := Ibn.rearranged (nums s) HALL.out
                rw [← HHS2.out, ← y3] at hre
                have HRE : Hid (((nums s).take 4).foldl Ibn.modc r = (r * (S % 97) + H % 97) % 97) := hre
                obtain ⟨z0, z1⟩ := Ibn.prod_bd r S hr0 hr1
                clear y3 hre HHS2 HH HHS HR p2
                subst y1 y2
                have e1 : (h != h) = false := by simp
                have e2 : (hsc != hsc) = false := by simp
                have e3 : decide ((s.size : Int) ≤ 4) = false := by simp; omega
                go_wp2
                go_loop [18, 19] (fun m i => ∃ (i' : Nat) (m' : Int), 4 ≤ i' ∧ i' ≤ s.size ∧ i = .int .i64 i' ∧ m = .int .i64 m' ∧ m' = (((nums s).take i').drop 4).foldl Ibn.modc 0) (fun _ i => s.size - (intOf i).toNat)
                case atStart => exact ⟨4, 0, Nat.le_refl _, by omega, rfl, rfl, by rw [List.drop_eq_nil_of_le (by rw [List.length_take]; omega)]; rfl⟩
                case round =>
                  obtain ⟨i, m, hi1, hi2, rfl, rfl, hm⟩ := hrel
                  obtain ⟨m0, m1⟩ := Ibn.fold_bd (((nums s).take i).drop 4) 0 (by decide) (by decide)
                  rw [← hm] at m0 m1
                  have HM : Hid (m = (((nums s).take i).drop 4).foldl Ibn.modc 0) := hm
                  clear hm
                  by_cases his : i < s.size
                  · obtain ⟨m2, hm2⟩ : ∃ m2, m2 = Ibn.modc m ((s[i].toNat : Nat) : Int) := ⟨_, rfl⟩
                    have HM2 : Hid (m2 = (((nums s).take (i + 1)).drop 4).foldl Ibn.modc 0) := by
                      show m2 = _
                      rw [fold_take s i hi1 his, ← HM.out, hm2]
                    have HC : Hid (∀ w : World, Calls Try.prog 16 #[.int .i64 m, .int .u8 ((s[i].toNat : Nat) : Int)] w fun e w' => e = .returned (.int .i64 m2) ∧ w' = w) := fun w => mod97_any m _ m0 m1 (HALL.out _ (List.mem_of_getElem? (nums_at s i his))) m2 hm2 w
                    clear hm2
                    go_wp2_with fail
                    refine (HC.out _).mono ?_
                    rintro e w6 ⟨rfl, hw⟩
                    subst hw
                    go_wp2
                    exact ⟨⟨i + 1, m2, by omega, by omega, by go_num, rfl, HM2.out⟩, by simp [intOf]; omega⟩
                  · have hmr : m = r := by
                      rw [HM.out, HR3.out, List.take_of_length_le (by rw [nums_len]; omega)]
                    subst hmr
                    clear HM
                    go_wp2
                    go_loop [18, 20] (fun m' i => ∃ (i' : Nat) (m2 : Int), i' ≤ 4 ∧ i = .int .i64 i' ∧ m' = .int .i64 m2 ∧ m2 = ((nums s).take i').foldl Ibn.modc m) (fun _ i => 4 - (intOf i).toNat)
                    case atStart => exact ⟨0, m, by omega, rfl, rfl, rfl⟩
                    case round =>
                      obtain ⟨j, m3, hj, rfl, rfl, hm3⟩ := hrel
                      obtain ⟨n0, n1⟩ := Ibn.fold_bd ((nums s).take j) m m0 m1
                      rw [← hm3] at n0 n1
                      have HM3 : Hid (m3 = ((nums s).take j).foldl Ibn.modc m) := hm3
                      clear hm3
                      by_cases hj4 : j < 4
                      · have hjs : j < s.size := by omega
                        obtain ⟨m4, hm4⟩ : ∃ m4, m4 = Ibn.modc m3 ((s[j].toNat : Nat) : Int) := ⟨_, rfl⟩
                        have HM4 : Hid (m4 = ((nums s).take (j + 1)).foldl Ibn.modc m) := by
                          show m4 = _
                          rw [fold_take2 s m j hjs, ← HM3.out, hm4]
                        have HC : Hid (∀ w : World, Calls Try.prog 16 #[.int .i64 m3, .int .u8 ((s[j].toNat : Nat) : Int)] w fun e w' => e = .returned (.int .i64 m4) ∧ w' = w) := fun w => mod97_any m3 _ n0 n1 (HALL.out _ (List.mem_of_getElem? (nums_at s j hjs))) m4 hm4 w
                        clear hm4
                        go_wp2_with fail
                        refine (HC.out _).mono ?_
                        rintro e w6 ⟨rfl, hw⟩
                        subst hw
                        go_wp2
                        exact ⟨⟨j + 1, m4, by omega, by go_num, rfl, HM4.out⟩, by simp [intOf]; omega⟩
                      · have hj5 : j = 4 := by omega
                        subst hj5
                        have hfin : m3 = (m * (hsc % 97) + h % 97) % 97 := by rw [HM3.out, HRE.out]
                        subst hfin
                        clear HM3 HRE
                        go_wp2
                        go_ret
                        exact ⟨by simp, B1.out⟩

end Go.Proofs.Qxb6621684a
