/-
  'FnMergeOverlapsJoinsEachChain': THE WALK.
-/
import Derived.Test.Qxb6621684aChain
import Derived.Test.Qxb6621684aZzMerge
import Derived.Test.Qxb6621684aSame
import Derived.Test.Qxb6621684aBytes
namespace Go.Proofs.Qxb6621684a
open Go.RowKit

theorem since_dn {B : Nat} {w w' : World} (h : w.Since B w') (n : Nat) : w.Since B (w'.drewN n) := ⟨h.os, h.tape, h.output, h.size, h.block⟩
theorem Src.pick' {w : World} {b off : Nat} {l : List Cd} (h : Src w (some ⟨b, off, none⟩) l) (i : Nat) (hi : i < l.length) : AtO w b off i (l.getD i noCd) := by
  obtain ⟨b', off', ha, hat⟩ := h i hi
  simp only [Option.some.injEq, Addr.mk.injEq, and_true] at ha
  obtain ⟨rfl, rfl⟩ := ha
  exact hat

set_option maxRecDepth 100000 in
set_option maxHeartbeats 1000000 in
theorem chain_nil (a : Option Addr) (c : Nat) (w : World) :
    Calls Try.prog 21 #[.slice a 0 c] w fun e w' => e = .returned (.slice (some ⟨w.heap.size, 0, none⟩) 0 0) ∧ w.Since w.heap.size w' := by
  have hmk : ∀ w, (Instr.makeSlice 31 (.int .i64 0) (.int .i64 0)).run Try.prog w = .ok (.slice (some ⟨w.heap.size, 0, none⟩) 0 0) (w.alloc (.cells (six0 0) 34)) := run_make6 31 34 Try.underlying31 Try.zero34 0 0 (Nat.zero_le _) (by omega)
  go_enter Try.func21, Try.ntmps21
  go_wp2
  refine wp_loop_rounds 1 ?_
  rw [rounds_succ]
  go_wp2
  go_ret
  exact ⟨rfl, (World.Since.refl _ _).alloc (Nat.le_refl _) _⟩

set_option maxRecDepth 100000 in
set_option maxHeartbeats 2000000 in
theorem joins_nil (a : Option Addr) (c : Nat) (w : World) :
    Calls Try.prog 6 #[.slice a 0 c] w fun e w' => e = .returned (.bool true) ∧ w.Since w.heap.size w' := by
  go_enter Try.func6, Try.ntmps6
  go_wp2_with fail
  refine (bytes19 a 0 c [] rfl (by unfold maxLen; omega) w (Src.nil _ _)).mono ?_
  rintro e w ⟨⟨r, rfl⟩, rfl⟩
  cases r with
  | false =>
    go_wp2
    go_ret
    exact ⟨rfl, World.Since.refl _ _⟩
  | true =>
    go_wp2
    refine wp_loop_rounds 1 ?_
    rw [rounds_succ]
    go_wp2
    refine wp_loop_rounds 1 ?_
    rw [rounds_succ]
    go_wp2_with fail
    refine (zzmerge_any a 0 c [] rfl (by omega) _ (Src.nil _ _)).mono ?_
    rintro e w1 ⟨g, rfl, hg, hr, hi⟩
    have HI : Hid (w.Since w.heap.size w1) := hi
    have hgl := hr.lt
    clear hr hi
    simp only [show (Mg.merge ([] : List Cd)).length = 0 from rfl]
    go_wp2_with fail
    refine (chain_nil a c _).mono ?_
    rintro e w2 ⟨rfl, hi2⟩
    have HI2 : Hid (w.Since w.heap.size w2) := HI.out.trans ⟨hi2.os, hi2.tape, hi2.output, hi2.size, fun k hk => hi2.block k (by have := HI.out.size; omega)⟩
    clear hi2
    go_wp2_with fail
    refine (same_any _ _ 0 _ _ [] rfl (by omega) _ (Src.nil _ _) (Src.nil _ _)).mono ?_
    rintro e w3 ⟨rfl, hw⟩
    have HI3 : Hid (w.Since w.heap.size w3) := by
      obtain ⟨m, rfl⟩ := hw
      exact HI2.out.trans ⟨rfl, rfl, rfl, Nat.le_refl _, fun _ _ => rfl⟩
    clear hw
    go_wp2_with fail
    go_quiet ((go_at_call 22; exact Calls.quiet_of (same_any _ _ 0 _ _ [] rfl (by omega) _ (Src.nil _ _) (Src.nil _ _))))
    go_wp2
    go_ret
    exact ⟨rfl, HI3.out.trans ⟨rfl, rfl, rfl, Nat.le_refl _, fun _ _ => rfl⟩⟩

set_option maxRecDepth 100000 in
set_option maxHeartbeats 4000000 in
theorem joins_some
    (b off n c : Nat) (l : List Cd) (hn : l.length = n) (hnc : n ≤ c) (hcm : c ≤ maxLen) (w : World) (hsrc : Src w (some ⟨b, off, none⟩) l) (hblt : b < w.heap.size) :
    Calls Try.prog 6 #[.slice (some ⟨b, off, none⟩) n c] w fun e w' => e = .returned (.bool true) ∧ w.Since w.heap.size w' := by
  have HB19 := bytes19 (some ⟨b, off, none⟩) n c l hn (by omega) w hsrc
  have HN : Hid (l.length = n) := hn
  have HS : Hid (Src w (some ⟨b, off, none⟩) l) := hsrc
  have HB : Hid (Calls Try.prog 19 #[.slice (some ⟨b, off, none⟩) n c] w fun e w' => SomeBool e ∧ w' = w) := HB19
  clear hn hsrc HB19
  unfold maxLen at hcm
  go_enter Try.func6, Try.ntmps6
  go_wp2_with fail
  refine (HB.out).mono ?_
  rintro e w ⟨⟨r, rfl⟩, rfl⟩
  clear HB
  cases r with
  | false =>
    go_wp2
    go_ret
    exact ⟨rfl, World.Since.refl _ _⟩
  | true =>
    by_cases hbig : 65536 < (n : Int)
    · go_wp2
      all_goals (go_ret; exact ⟨rfl, World.Since.refl _ _⟩)
    · have h1 : (n : Int) ≤ 65536 := by omega
      have d1 : decide ((65536 : Int) < (n : Int)) = false := by simp; omega
      clear hbig
      go_wp2
      go_loop [3, 4] (fun s i => ∃ (k : Nat) (t : Int), k ≤ n ∧ i = .int .i64 k ∧ s = .int .i64 t) (fun _ i => n - (intOf i).toNat)
      case atStart => exact ⟨0, _, Nat.zero_le _, rfl, rfl⟩
      case round =>
        obtain ⟨k, t, hk, rfl, rfl⟩ := hrel
        by_cases hlt : k < n
        · have ha := HS.out.pick' k (by rw [HN.out]; exact hlt)
          obtain ⟨x, hx⟩ : ∃ x, x = l.getD k noCd := ⟨_, rfl⟩
          rw [← hx] at ha
          clear hx
          obtain ⟨a0, a1, a2, a3, a4, a5⟩ := ha
          clear a1 a2 a3 a4 a5
          go_wp2
          · go_ret; exact ⟨rfl, World.Since.refl _ _⟩
          · exact ⟨⟨k + 1, _, by omega, by go_num, rfl⟩, by simp [intOf]; omega⟩
        · go_wp2
          go_loopw [5] (fun i wr => ∃ k : Nat, k ≤ n ∧ i = .int .i64 k ∧ (∀ j, j < k → (l.getD j noCd).st ≤ (l.getD j noCd).en ∧ (l.getD j noCd).sh ≤ 0) ∧ Src wr (some ⟨b, off, none⟩) l ∧ w.Since w.heap.size wr) (fun i _ => n - (intOf i).toNat)
          case atStart => exact ⟨0, Nat.zero_le _, rfl, fun j hj => by omega, HS.out, World.Since.refl _ _⟩
          case round =>
            obtain ⟨k2, hk2, rfl, hall, hsr, hsi⟩ := hrel
            have HALL : Hid (∀ j, j < k2 → (l.getD j noCd).st ≤ (l.getD j noCd).en ∧ (l.getD j noCd).sh ≤ 0) := hall
            have HSR : Hid (Src wr (some ⟨b, off, none⟩) l) := hsr
            have HSI : Hid (w.Since w.heap.size wr) := hsi
            clear hall hsr hsi
            by_cases hlt2 : k2 < n
            · have ha := HSR.out.pick' k2 (by rw [HN.out]; exact hlt2)
              obtain ⟨x, hx⟩ : ∃ x, x = l.getD k2 noCd := ⟨_, rfl⟩
              rw [← hx] at ha
              have HX : Hid (x = l.getD k2 noCd) := hx
              clear hx
              obtain ⟨a0, a1, a2, a3, a4, a5⟩ := ha
              clear a0 a3 a4
              have i0 : (0 : Int) ≤ (k2 : Int) := by omega
              have i1 : (k2 : Int) < (n : Int) := by omega
              by_cases hbad : x.en < x.st ∨ 0 < x.sh
              · by_cases hbad1 : x.en < x.st
                · clear hbad
                  go_wp2_with fail
                  go_quiet (fail)
                  go_wp2
                  go_ret
                  exact ⟨rfl, since_dn HSI.out _⟩
                · have z1 : decide (x.en < x.st) = false := by simpa using hbad1
                  have z2 : 0 < x.sh := by omega
                  clear hbad
                  go_wp2_with fail
                  go_quiet (fail)
                  go_wp2
                  go_ret
                  exact ⟨rfl, since_dn HSI.out _⟩
              · have z1 : decide (x.en < x.st) = false := by simp; omega
                have z2 : decide (0 < x.sh) = false := by simp; omega
                have HALL2 : Hid (∀ j, j < k2 + 1 → (l.getD j noCd).st ≤ (l.getD j noCd).en ∧ (l.getD j noCd).sh ≤ 0) := fun j hj => by
                  by_cases hjk : j = k2
                  · subst hjk
                    rw [← HX.out]
                    omega
                  · exact HALL.out j (by omega)
                clear hbad
                by_cases hk0 : k2 = 0
                · subst hk0
                  go_wp2_with fail
                  go_quiet (fail)
                  go_wp2_with fail
                  go_quiet (fail)
                  go_wp2
                  first | exact ⟨⟨1, by omega, by go_num, HALL2.out, HSR.out.drewN _, since_dn HSI.out _⟩, by simp [intOf]; omega⟩ | exact ⟨⟨1, by omega, by go_num, HALL2.out, (HSR.out.drewN _).drewN _, since_dn (since_dn HSI.out _) _⟩, by simp [intOf]; omega⟩
                · obtain ⟨k3, rfl⟩ : ∃ k3, k2 = k3 + 1 := ⟨k2 - 1, by omega⟩
                  have hp := HSR.out.pick' k3 (by rw [HN.out]; omega)
                  obtain ⟨p, hp'⟩ : ∃ p, p = l.getD k3 noCd := ⟨_, rfl⟩
                  rw [← hp'] at hp
                  clear hp'
                  obtain ⟨p0, p1, p2, p3, p4, p5⟩ := hp
                  clear p0 p2 p3 p4 p5 hk0
                  by_cases hso : x.st < p.st
                  · go_wp2_with fail
                    go_quiet (fail)
                    go_wp2_with fail
                    go_quiet (fail)
                    go_wp2
                    go_ret
                    exact ⟨rfl, since_dn (since_dn HSI.out _) _⟩
                  · have z4 : decide (x.st < p.st) = false := by simpa using hso
                    go_wp2_with fail
                    go_quiet (fail)
                    go_wp2_with fail
                    go_quiet (fail)
                    go_wp2
                    first | exact ⟨⟨k3 + 1 + 1, by omega, by go_num, HALL2.out, HSR.out.drewN _, since_dn HSI.out _⟩, by simp [intOf]; omega⟩ | exact ⟨⟨k3 + 1 + 1, by omega, by go_num, HALL2.out, (HSR.out.drewN _).drewN _, since_dn (since_dn HSI.out _) _⟩, by simp [intOf]; omega⟩
            · have HT : Hid (∀ i, i < l.length → (l.getD i noCd).st ≤ (l.getD i noCd).en ∧ (l.getD i noCd).sh ≤ 0) := fun j hj => HALL.out j (by have := HN.out; omega)
              clear HALL
              go_wp2_with fail
              refine (zzmerge_any (some ⟨b, off, none⟩) n c l HN.out (by omega) _ HSR.out).mono ?_
              rintro e w4 ⟨g2, rfl, hg2, hr2, hi2⟩
              have hqz := Mg.merge_len l
              rw [HN.out] at hqz
              obtain ⟨q, hq⟩ : ∃ q, q = (Mg.merge l).length := ⟨_, rfl⟩
              have HQ : Hid (q = (Mg.merge l).length) := hq
              rw [← hq] at hqz hr2
              rw [← hq]
              have hws := HSI.out.size
              have HW4 : Hid (Row w4 g2 34 (Mg.merge l ++ l.drop q)) := hr2
              have HS4 : Hid (Src w4 (some ⟨b, off, none⟩) l) := HSR.out.since hi2
              have HI4 : Hid (w.Since w.heap.size w4) := HSI.out.trans ⟨hi2.os, hi2.tape, hi2.output, hi2.size, fun k hk => hi2.block k (by omega)⟩
              have hb4 : b < w4.heap.size := by have := HI4.out.size; omega
              have hg4 := hr2.lt
              have HC := chain_some b off n c l HN.out (by omega) HT.out w4 HS4.out hb4
              rw [← hq] at HC
              have HCC : Hid (Calls Try.prog 21 #[.slice (some ⟨b, off, none⟩) n c] w4 fun e w' => ∃ g, e = .returned (.slice (some ⟨g, 0, none⟩) q n) ∧ w4.heap.size ≤ g ∧ Src w' (some ⟨g, 0, none⟩) (Mg.merge l) ∧ w4.Since w4.heap.size w') := HC
              clear hq hr2 hi2 hg2 HC HT HSR HSI hws
              go_wp2_with fail
              refine (HCC.out).mono ?_
              rintro e w5 ⟨g3, rfl, hg3, hs3, hi3⟩
              have HW5 : Hid (Row w5 g2 34 (Mg.merge l ++ l.drop q)) := HW4.out.of_block (hi3.block _ hg4)
              have HS5 : Hid (Src w5 (some ⟨b, off, none⟩) l) := HS4.out.since hi3
              have HI5 : Hid (w.Since w.heap.size w5) := HI4.out.trans ⟨hi3.os, hi3.tape, hi3.output, hi3.size, fun k hk => hi3.block k (by have := HI4.out.size; omega)⟩
              have HM : Hid (Src w5 (some ⟨g3, 0, none⟩) (Mg.merge l)) := hs3
              have HM1 : Hid (Src w5 (some ⟨g2, 0, none⟩) (Mg.merge l)) := by
                have h := HW5.out.src.take (Mg.merge l).length
                rw [List.take_left] at h
                exact h
              clear hs3 hi3 hg3 HCC HW4 HS4 HI4
              go_wp2_with fail
              refine (same_any (some ⟨g2, 0, none⟩) (some ⟨g3, 0, none⟩) q n n (Mg.merge l) HQ.out.symm (by omega) _ HM1.out HM.out).mono ?_
              rintro e w6 ⟨rfl, hw⟩
              have HW6 : Hid (Row w6 g2 34 (Mg.merge l ++ l.drop q)) := by
                obtain ⟨m, rfl⟩ := hw
                exact HW5.out
              have HS6 : Hid (Src w6 (some ⟨b, off, none⟩) l) := by
                obtain ⟨m, rfl⟩ := hw
                exact HS5.out.drewN m
              have HI6 : Hid (w.Since w.heap.size w6) := by
                obtain ⟨m, rfl⟩ := hw
                exact since_dn HI5.out m
              clear hw HW5 HS5 HI5 HM HM1
              have j2 : (q : Int) ≤ (n : Int) := by omega
              have j3 : (0 : Int) ≤ (q : Int) := by omega
              by_cases hqn : n = q
              · have HQN : Hid (n = q) := hqn
                subst hqn
                by_cases hcn : c = n
                · subst hcn
                  go_wp2_with fail
                  go_quiet ((go_at_call 22; exact Calls.quiet_of (same_any _ _ 0 _ _ [] rfl (by omega) _ (Src.nil _ _) (Src.nil _ _))))
                  go_wp2
                  go_ret
                  exact ⟨rfl, since_dn HI6.out _⟩
                · go_wp2_with fail
                  go_quiet ((go_at_call 22; exact Calls.quiet_of (same_any _ _ 0 _ _ [] rfl (by omega) _ (Src.nil _ _) (Src.nil _ _))))
                  go_wp2
                  go_ret
                  exact ⟨rfl, since_dn HI6.out _⟩
              · have hq2 : q < n := by omega
                have hcq : ¬ c = q := by omega
                have hs1 := HW6.out.src.drop q
                rw [List.drop_left' HQ.out.symm, Nat.zero_add] at hs1
                have hs2 := HS6.out.drop q
                have HSM : Hid (∀ m, Calls Try.prog 22 #[.slice (some ⟨g2, q * 6, none⟩) (n - q) (n - q), .slice (some ⟨b, off + q * 6, none⟩) (n - q) (c - q)] (w6.drewN m) fun e w' => e = .returned (.bool true) ∧ ∃ k, w' = (w6.drewN m).drewN k) :=
                  fun m => same_any (some ⟨g2, q * 6, none⟩) (some ⟨b, off + q * 6, none⟩) (n - q) (n - q) (c - q) (l.drop q) (by rw [List.length_drop, HN.out]) (by omega) (w6.drewN m) (hs1.drewN m) (hs2.drewN m)
                clear hs1 hs2
                go_wp2_with fail
                go_quiet ((go_at_call 22; exact Calls.quiet_of (HSM.out _)))
                go_wp2
                go_ret
                exact ⟨rfl, since_dn HI6.out _⟩

theorem joins_walk (a : Option Addr) (n c : Nat) (l : List Cd) (hn : l.length = n) (hnc : n ≤ c) (hcm : c ≤ maxLen) (w : World) (hsrc : Src w a l) :
    Calls Try.prog 6 #[.slice a n c] w fun e w' => e = .returned (.bool true) ∧ w.Since w.heap.size w' := by
  rcases Nat.eq_zero_or_pos n with h0 | h0
  · subst h0
    exact joins_nil a c w
  · obtain ⟨b, off, ha, hat⟩ := hsrc 0 (by omega)
    subst ha
    exact joins_some b off n c l hn hnc hcm w hsrc hat.lt

end Go.Proofs.Qxb6621684a
