import Derived.Test.Qxb6621684aMake
import Derived.Test.Qxb6621684aMerge
import Derived.Deep.RegionHeld3
import Derived.Deep.RegionWith
namespace Go.Proofs.Qxb6621684a
open Go.RowKit

set_option maxRecDepth 100000 in
set_option maxHeartbeats 2000000 in
/-- 'ZZMergeOverlaps'. -/
theorem zzmo_any
    (B n : Nat) (l : List Cd) (hn : l.length = n) (hbd : n ≤ 1000000000) (w : World) (hs : Six w B n l) (hB : B + 5 < w.heap.size) :
    Calls Try.prog 28 #[.slice (some ⟨B, 0, none⟩) n n, .slice (some ⟨B + 1, 0, none⟩) n n, .slice (some ⟨B + 2, 0, none⟩) n n, .slice (some ⟨B + 3, 0, none⟩) n n, .slice (some ⟨B + 4, 0, none⟩) n n, .slice (some ⟨B + 5, 0, none⟩) n n] w fun e w' =>
      e = .returned (.int .i64 (Mg.merge l).length) ∧ Six w' B n (Mg.merge l ++ l.drop (Mg.merge l).length) ∧ w.Since B w' := by
  have HN : Hid (l.length = n) := hn
  clear hn
  have HS : Hid (Six w B n l) := hs
  clear hs
  have hmk := run_make6 49 53 Try.underlying49 Try.zero53 n n (Nat.le_refl _) hbd
  go_enter Try.func28, Try.ntmps28
  go_wp2
  go_loopw [22] (fun i wr => ∃ k : Nat, k ≤ n ∧ i = .int .i64 k ∧ Row wr w.heap.size 53 (filled l n k) ∧ (w.alloc (.cells (six0 n) 53)).grownBy wr (some w.heap.size)) (fun i _ => n - (intOf i).toNat)
  case atStart => exact ⟨0, Nat.zero_le _, rfl, (row_made w 53 n).cast (filled_zero l n).symm, World.grownBy.refl _ _⟩
  case round =>
    obtain ⟨k, hk, rfl, hr, hg⟩ := hrel
    by_cases hlt : k < n
    · have hs2 := (HS.out.alloc (.cells (six0 n) 53)).grown hg hB
      have c0 := hs2.r0.cell hlt
      have c1 := hs2.r1.cell hlt
      have c2 := hs2.r2.cell hlt
      have c3 := hs2.r3.cell hlt
      have c4 := hs2.r4.cell hlt
      have c5 := hs2.r5.cell hlt
      clear hs2
      obtain ⟨c, hc⟩ : ∃ c, c = l.getD k noCd := ⟨_, rfl⟩
      rw [← hc] at c0 c1 c2 c3 c4 c5
      have HC : Hid (c = l.getD k noCd) := hc
      have ak := hr.at k (by rw [filled_len l n k HN.out hk]; exact hlt)
      obtain ⟨k0, k1, k2, k3, k4, k5⟩ := ak
      have fr := fun p => hr.frozen p
      have HR : Hid (Row wr w.heap.size 53 (filled l n k)) := hr
      have HG : Hid ((w.alloc (.cells (six0 n) 53)).grownBy wr (some w.heap.size)) := hg
      clear hc hr hg
      have n0 : ¬ B = w.heap.size := by omega
      have n1 : ¬ B + 1 = w.heap.size := by omega
      have n2 : ¬ B + 2 = w.heap.size := by omega
      have n3 : ¬ B + 3 = w.heap.size := by omega
      have n4 : ¬ B + 4 = w.heap.size := by omega
      have n5 : ¬ B + 5 = w.heap.size := by omega
      have i0 : (0 : Int) ≤ (k : Int) := by omega
      have i1 : (k : Int) < (n : Int) := by omega
      go_wp2_with fail
      go_region_held3 (fun w' => w'.cell? ⟨B, k, none⟩ = some (.string c.ty) ∧ w'.cell? ⟨B + 1, k, none⟩ = some (.int .i64 c.st) ∧ w'.cell? ⟨B + 2, k, none⟩ = some (.int .i64 c.en) ∧ w'.cell? ⟨B + 3, k, none⟩ = some (.int .i64 c.rk) ∧ w'.cell? ⟨B + 4, k, none⟩ = some (.int .i64 c.sz) ∧ w'.cell? ⟨B + 5, k, none⟩ = some (.int .i64 c.sh))
        (simp [go_sem, *])
        (fail)
      go_wp2
      go_light
      refine ⟨⟨k + 1, by omega, by go_num, Row.cast (Near.row (j := k) (L := filled l n k) ?_ (by rw [filled_len l n k HN.out hk]; exact hlt) (x := c) ?_) (by rw [HC.out]; exact filled_succ l n k HN.out hlt), ?_⟩, by simp [intOf]; omega⟩
      · repeat (with_reducible (first | apply Near.alloc | apply Near.drewN | apply Near.drew | (refine Near.set ?_ _ _ (by omega)) | exact Near.of_row HR.out _))
      · constructor <;> simp [go_sem, *]
      · repeat (with_reducible (first | apply gb_alloc | apply gb_drewN | apply gb_drew | apply gb_set | exact HG.out))
    · have HR : Hid (Row wr w.heap.size 53 l) := by
        have : k = n := by omega
        subst this
        exact hr.cast (filled_all l _ HN.out)
      have HG : Hid ((w.alloc (.cells (six0 n) 53)).grownBy wr (some w.heap.size)) := hg
      clear hr hg
      go_wp2_with fail
      refine (merge_any w.heap.size n l HN.out hbd _ HR.out).mono ?_
      rintro e w2 ⟨rfl, hr2, hg2⟩
      obtain ⟨N, hN⟩ : ∃ N, N = Mg.merge l ++ l.drop (Mg.merge l).length := ⟨_, rfl⟩
      rw [← hN] at hr2
      have hml := Mg.merge_len l
      have hNl : N.length = n := by rw [hN]; simp; have := HN.out; omega
      have HNN : Hid (N = Mg.merge l ++ l.drop (Mg.merge l).length) := hN
      have HNL : Hid (N.length = n) := hNl
      obtain ⟨q, hq⟩ : ∃ q, q = (Mg.merge l).length := ⟨_, rfl⟩
      rw [← hq]
      rw [← hq, HN.out] at hml
      have HQ : Hid (q = (Mg.merge l).length) := hq
      have HS2 : Hid (Six w2 B n l) := ((HS.out.alloc (.cells (six0 n) 53)).grown HG.out hB).grown hg2 hB
      have HI2 : Hid (w.Since B w2) := ((((World.Since.refl B w).alloc (by omega) (.cells (six0 n) 53)).grown HG.out (by simp; omega) (fun k hk => by simp at hk; omega)).grown hg2 (by have := HG.out.size; simp at this; omega) (fun k hk => by simp at hk; omega))
      have HR2 : Hid (Row w2 w.heap.size 53 N) := hr2
      clear hN hNl hq hr2 hg2
      go_wp2_with fail
      go_loopw [59] (fun i wr => ∃ k : Nat, k ≤ n ∧ i = .int .i64 k ∧ Six wr B n (laid N l k) ∧ Row wr w.heap.size 53 N ∧ w.Since B wr ∧ B + 5 < wr.heap.size) (fun i _ => n - (intOf i).toNat)
      case atStart => exact ⟨0, Nat.zero_le _, rfl, HS2.out.cast (laid_zero N l).symm, HR2.out, HI2.out, by have := HI2.out.size; omega⟩
      case round =>
        obtain ⟨k', hk', rfl, hs, hr, hsi, hsz⟩ := hrel
        by_cases hlt' : k' < n
        · have c0 := hs.r0.cell hlt'
          have c1 := hs.r1.cell hlt'
          have c2 := hs.r2.cell hlt'
          have c3 := hs.r3.cell hlt'
          have c4 := hs.r4.cell hlt'
          have c5 := hs.r5.cell hlt'
          have f0 := hs.r0.frozen k'
          have f1 := hs.r1.frozen k'
          have f2 := hs.r2.frozen k'
          have f3 := hs.r3.frozen k'
          have f4 := hs.r4.frozen k'
          have f5 := hs.r5.frozen k'
          have ak := hr.at k' (by rw [HNL.out]; exact hlt')
          obtain ⟨x, hx⟩ : ∃ x, x = N.getD k' noCd := ⟨_, rfl⟩
          rw [← hx] at ak
          have HX : Hid (x = N.getD k' noCd) := hx
          obtain ⟨k0, k1, k2, k3, k4, k5⟩ := ak
          have HS : Hid (Six wr B n (laid N l k')) := hs
          have HR : Hid (Row wr w.heap.size 53 N) := hr
          have HI : Hid (w.Since B wr) := hsi
          have n0 : ¬ B = w.heap.size := by omega
          have n1 : ¬ B + 1 = w.heap.size := by omega
          have n2 : ¬ B + 2 = w.heap.size := by omega
          have n3 : ¬ B + 3 = w.heap.size := by omega
          have n4 : ¬ B + 4 = w.heap.size := by omega
          have n5 : ¬ B + 5 = w.heap.size := by omega
          have n0' : ¬ w.heap.size = B := by omega
          have n1' : ¬ w.heap.size = B + 1 := by omega
          have n2' : ¬ w.heap.size = B + 2 := by omega
          have n3' : ¬ w.heap.size = B + 3 := by omega
          have n4' : ¬ w.heap.size = B + 4 := by omega
          have n5' : ¬ w.heap.size = B + 5 := by omega
          clear hx hs hr hsi
          go_wp2
          go_light
          have hll := laid_len N l k' (by rw [HNL.out, HN.out])
          rw [HN.out] at hll
          refine ⟨⟨k' + 1, by omega, by go_num, (HS.out.set k' hll hlt' x).cast (by rw [HX.out]; exact laid_succ N l k' (by rw [HNL.out, HN.out]) (by rw [HN.out]; exact hlt')), ?_, ?_, by simpa using hsz⟩, by simp [intOf]; omega⟩
          · exact (((((HR.out.setOther n0' _).setOther n1' _).setOther n2' _).setOther n3' _).setOther n4' _).setOther n5' _
          · exact (((((HI.out.setCell (Nat.le_refl _) _).setCell (by simp) _).setCell (by simp) _).setCell (by simp) _).setCell (by simp) _).setCell (by simp) _
        · have hkn : k' = n := by omega
          subst hkn
          have hs' := hs.cast (M := laid N l k') (N := N) (by rw [← HN.out]; exact laid_all N l (by rw [HNL.out, HN.out]))
          clear hs
          have HS : Hid (Six wr B k' N) := hs'
          have HI : Hid (w.Since B wr) := hsi
          clear hs' hr hsi
          go_wp2
          go_ret
          rw [← HNN.out, ← HQ.out]
          exact ⟨rfl, HS.out, HI.out⟩

end Go.Proofs.Qxb6621684a
