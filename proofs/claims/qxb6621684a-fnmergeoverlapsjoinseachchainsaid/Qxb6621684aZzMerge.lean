import Derived.Test.Qxb6621684aSrc
import Derived.Test.Qxb6621684aZz
namespace Go.Proofs.Qxb6621684a
open Go.RowKit

theorem since6 (w : World) (o1 o2 o3 o4 o5 o6 : Obj) : w.Since w.heap.size ((((((w.alloc o1).alloc o2).alloc o3).alloc o4).alloc o5).alloc o6) := by
  have s1 : ∀ (w : World) o, (w.alloc o).heap.size = w.heap.size + 1 := fun w o => by simp
  refine ((((((World.Since.refl _ w).alloc (Nat.le_refl _) _).alloc ?_ _).alloc ?_ _).alloc ?_ _).alloc ?_ _).alloc ?_ _ <;> simp only [s1] <;> omega

set_option maxRecDepth 100000 in
set_option maxHeartbeats 2000000 in
/-- 'zzMerge'. -/
theorem zzmerge_any (a : Option Addr) (n c : Nat) (l : List Cd) (hn : l.length = n) (hbd : n ≤ 1000000000) (w : World) (hsrc : Src w a l) :
    Calls Try.prog 20 #[.slice a n c] w fun e w' => ∃ g, e = .returned (.tuple #[.slice (some ⟨g, 0, none⟩) (Mg.merge l).length n, .slice (some ⟨g, 0, none⟩) n n, .bool true]) ∧
      w.heap.size ≤ g ∧ Row w' g 34 (Mg.merge l ++ l.drop (Mg.merge l).length) ∧ w.Since w.heap.size w' := by
  have HN : Hid (l.length = n) := hn
  clear hn
  have HSRC : Hid (Src w a l) := hsrc
  clear hsrc
  have hmk9 := run_make_row' (P := Try.prog) 42 9 (.string ByteArray.empty) 16 Try.underlying42 Try.info9 rfl .i64 .i64 n (by omega) (by omega)
  have hmk3 := run_make_row' (P := Try.prog) 43 3 (.int .i64 0) 8 Try.underlying43 Try.info3 rfl .i64 .i64 n (by omega) (by omega)
  have hmk34 := run_make6 31 34 Try.underlying31 Try.zero34 n n (Nat.le_refl _) hbd
  go_enter Try.func20, Try.ntmps20
  go_wp2
  go_loopw [12] (fun i wr => ∃ k : Nat, k ≤ n ∧ i = .int .i64 k ∧ Six wr w.heap.size n (filled l n k) ∧ w.Since w.heap.size wr ∧ w.heap.size + 5 < wr.heap.size) (fun i _ => n - (intOf i).toNat)
  case atStart => exact ⟨0, Nat.zero_le _, rfl, (six_made w n).cast (filled_zero l n).symm, since6 w _ _ _ _ _ _, by simp⟩
  case round =>
    obtain ⟨k, hk, rfl, hs, hsi, hsz⟩ := hrel
    by_cases hlt : k < n
    · obtain ⟨b, off, ha, hat⟩ := HSRC.out k (by rw [HN.out]; exact hlt)
      have hblt := hat.lt
      have ak := hat.same (hsi.block b hblt)
      clear hat
      subst ha
      obtain ⟨x, hx⟩ : ∃ x, x = l.getD k noCd := ⟨_, rfl⟩
      rw [← hx] at ak
      have HX : Hid (x = l.getD k noCd) := hx
      obtain ⟨k0, k1, k2, k3, k4, k5⟩ := ak
      have c0 := hs.r0.cell hlt
      have c1 := hs.r1.cell hlt
      have c2 := hs.r2.cell hlt
      have c3 := hs.r3.cell hlt
      have c4 := hs.r4.cell hlt
      have c5 := hs.r5.cell hlt
      have f0 := hs.r0.frozen k
      have f1 := hs.r1.frozen k
      have f2 := hs.r2.frozen k
      have f3 := hs.r3.frozen k
      have f4 := hs.r4.frozen k
      have f5 := hs.r5.frozen k
      have HS : Hid (Six wr w.heap.size n (filled l n k)) := hs
      have HI : Hid (w.Since w.heap.size wr) := hsi
      have n0 : ¬ b = w.heap.size := by omega
      have n1 : ¬ b = w.heap.size + 1 := by omega
      have n2 : ¬ b = w.heap.size + 2 := by omega
      have n3 : ¬ b = w.heap.size + 3 := by omega
      have n4 : ¬ b = w.heap.size + 4 := by omega
      have n5 : ¬ b = w.heap.size + 5 := by omega
      clear hx hs hsi
      go_wp2
      go_light
      have hfl := filled_len l n k HN.out hk
      refine ⟨⟨k + 1, by omega, by go_num, (HS.out.set k hfl hlt x).cast (by rw [HX.out]; exact filled_succ l n k HN.out hlt), ?_, by simpa using hsz⟩, by simp [intOf]; omega⟩
      exact (((((HI.out.setCell (Nat.le_refl _) _).setCell (by simp) _).setCell (by simp; omega) _).setCell (by simp; omega) _).setCell (by simp; omega) _).setCell (by simp; omega) _
    · have HS : Hid (Six wr w.heap.size n l) := by
        have : k = n := by omega
        subst this
        exact hs.cast (filled_all l _ HN.out)
      have HI : Hid (w.Since w.heap.size wr) := hsi
      clear hs hsi
      go_wp2_with fail
      refine (zzmo_any w.heap.size n l HN.out hbd _ HS.out hsz).mono ?_
      rintro e w2 ⟨rfl, hs2, hi2⟩
      have hml := Mg.merge_len l
      obtain ⟨N, hN⟩ : ∃ N, N = Mg.merge l ++ l.drop (Mg.merge l).length := ⟨_, rfl⟩
      rw [← hN] at hs2
      have HNL : Hid (N.length = n) := by
        show N.length = n
        rw [hN]; simp; have := HN.out; omega
      have HNN : Hid (N = Mg.merge l ++ l.drop (Mg.merge l).length) := hN
      obtain ⟨q, hq⟩ : ∃ q, q = (Mg.merge l).length := ⟨_, rfl⟩
      rw [← hq]
      rw [← hq, HN.out] at hml
      have HQ : Hid (q = (Mg.merge l).length) := hq
      have HS2 : Hid (Six w2 w.heap.size n N) := hs2
      have HI2 : Hid (w.Since w.heap.size w2) := HI.out.trans hi2
      have hsz2 : w.heap.size + 5 < w2.heap.size := by have := hi2.size; omega
      clear hN hq hs2 hi2
      have d1 : decide ((q : Int) < 0) = false := by simp
      have d2 : decide (n < q) = false := by simp; omega
      have d3 : decide ((n : Int) < (q : Int)) = false := by simp; omega
      go_wp2
      go_loopw [15] (fun i wr => ∃ k : Nat, k ≤ n ∧ i = .int .i64 k ∧ Row wr w2.heap.size 34 (filled N n k) ∧ (w2.alloc (.cells (six0 n) 34)).grownBy wr (some w2.heap.size)) (fun i _ => n - (intOf i).toNat)
      case atStart => exact ⟨0, Nat.zero_le _, rfl, (row_made w2 34 n).cast (filled_zero N n).symm, World.grownBy.refl _ _⟩
      case round =>
        obtain ⟨k', hk', rfl, hr, hg⟩ := hrel
        by_cases hlt' : k' < n
        · have hs3 := (HS2.out.alloc (.cells (six0 n) 34)).grown hg hsz2
          have c0 := hs3.r0.cell hlt'
          have c1 := hs3.r1.cell hlt'
          have c2 := hs3.r2.cell hlt'
          have c3 := hs3.r3.cell hlt'
          have c4 := hs3.r4.cell hlt'
          have c5 := hs3.r5.cell hlt'
          clear hs3
          obtain ⟨x, hx⟩ : ∃ x, x = N.getD k' noCd := ⟨_, rfl⟩
          rw [← hx] at c0 c1 c2 c3 c4 c5
          have HX : Hid (x = N.getD k' noCd) := hx
          have ak := hr.at k' (by rw [filled_len N n k' HNL.out hk']; exact hlt')
          obtain ⟨k0, k1, k2, k3, k4, k5⟩ := ak
          have fr := fun p => hr.frozen p
          have HR : Hid (Row wr w2.heap.size 34 (filled N n k')) := hr
          have HG : Hid ((w2.alloc (.cells (six0 n) 34)).grownBy wr (some w2.heap.size)) := hg
          have n0 : ¬ w.heap.size = w2.heap.size := by omega
          have n1 : ¬ w.heap.size + 1 = w2.heap.size := by omega
          have n2 : ¬ w.heap.size + 2 = w2.heap.size := by omega
          have n3 : ¬ w.heap.size + 3 = w2.heap.size := by omega
          have n4 : ¬ w.heap.size + 4 = w2.heap.size := by omega
          have n5 : ¬ w.heap.size + 5 = w2.heap.size := by omega
          clear hx hr hg
          have i0 : (0 : Int) ≤ (k' : Int) := by omega
          have i1 : (k' : Int) < (n : Int) := by omega
          go_wp2_with fail
          go_region_held3 (fun w' => w'.cell? ⟨w.heap.size, k', none⟩ = some (.string x.ty) ∧ w'.cell? ⟨w.heap.size + 1, k', none⟩ = some (.int .i64 x.st) ∧ w'.cell? ⟨w.heap.size + 2, k', none⟩ = some (.int .i64 x.en) ∧ w'.cell? ⟨w.heap.size + 3, k', none⟩ = some (.int .i64 x.rk) ∧ w'.cell? ⟨w.heap.size + 4, k', none⟩ = some (.int .i64 x.sz) ∧ w'.cell? ⟨w.heap.size + 5, k', none⟩ = some (.int .i64 x.sh))
            (simp [go_sem, *])
            (fail)
          go_wp2
          go_light
          refine ⟨⟨k' + 1, by omega, by go_num, Row.cast (Near.row (j := k') (L := filled N n k') ?_ (by rw [filled_len N n k' HNL.out hk']; exact hlt') (x := x) ?_) (by rw [HX.out]; exact filled_succ N n k' HNL.out hlt'), ?_⟩, by simp [intOf]; omega⟩
          · repeat (with_reducible (first | apply Near.alloc | apply Near.drewN | apply Near.drew | (refine Near.set ?_ _ _ (by omega)) | exact Near.of_row HR.out _))
          · constructor <;> simp [go_sem, *]
          · repeat (with_reducible (first | apply gb_alloc | apply gb_drewN | apply gb_drew | apply gb_set | exact HG.out))
        · have HR : Hid (Row wr w2.heap.size 34 N) := by
            have : k' = n := by omega
            subst this
            exact hr.cast (filled_all N _ HNL.out)
          have HG : Hid ((w2.alloc (.cells (six0 n) 34)).grownBy wr (some w2.heap.size)) := hg
          clear hr hg
          have q0 : (0 : Int) ≤ (q : Int) := by omega
          have q1 : (q : Int) ≤ (n : Int) := by omega
          go_wp2
          go_ret3
          rw [← HNN.out, ← HQ.out]
          refine ⟨w2.heap.size, rfl, by omega, HR.out, ?_⟩
          exact HI2.out.trans (((World.Since.refl _ w2).alloc (by omega) _).grown HG.out (by simp; omega) (fun k hk => by simp at hk; omega))

end Go.Proofs.Qxb6621684a
