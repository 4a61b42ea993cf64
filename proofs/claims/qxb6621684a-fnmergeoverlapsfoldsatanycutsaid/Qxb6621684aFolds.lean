import Derived.Test.Qxb6621684aZzMerge
import Derived.Test.Qxb6621684aSame
import Derived.Test.Qxb6621684aBytes
namespace Go.Proofs.Qxb6621684a
open Go.RowKit

theorem since_mono {B C : Nat} {w w' : World} (h : w.Since B w') (hC : C ≤ B) : w.Since C w' := ⟨h.os, h.tape, h.output, h.size, fun k hk => h.block k (by omega)⟩
theorem getD_of_get? {L : List Cd} {k : Nat} {x : Cd} (h : L[k]? = some x) : L.getD k noCd = x := by simp [List.getD, h]
theorem first_st (Z : List Cd) (h : 0 < Z.length) : ((Mg.merge Z).getD 0 noCd).st = (Z.getD 0 noCd).st := by
  have h1 := Mg.merge_first Z
  have h2 := Mg.merge_pos Z h
  obtain ⟨x, hx⟩ : ∃ x, Z[0]? = some x := ⟨_, List.getElem?_eq_getElem h⟩
  obtain ⟨y, hy⟩ : ∃ y, (Mg.merge Z)[0]? = some y := ⟨_, List.getElem?_eq_getElem h2⟩
  rw [List.head?_eq_getElem?, List.head?_eq_getElem?, hx, hy] at h1
  rw [getD_of_get? hx, getD_of_get? hy]
  simpa using h1
theorem merge_sep' (Z : List Cd) (k : Nat) (h : k + 1 < (Mg.merge Z).length) : ((Mg.merge Z).getD k noCd).en ≤ ((Mg.merge Z).getD (k + 1) noCd).st := by
  obtain ⟨x, hx⟩ : ∃ x, (Mg.merge Z)[k]? = some x := ⟨_, List.getElem?_eq_getElem (by omega)⟩
  obtain ⟨y, hy⟩ : ∃ y, (Mg.merge Z)[k + 1]? = some y := ⟨_, List.getElem?_eq_getElem h⟩
  rw [getD_of_get? hx, getD_of_get? hy]
  exact Mg.merge_sep Z k x y hx hy
theorem since_drewN {B : Nat} {w w' : World} (h : w.Since B w') (n : Nat) : w.Since B (w'.drewN n) := ⟨h.os, h.tape, h.output, h.size, h.block⟩
theorem merge_src {w : World} {g : Nat} {Z T : List Cd} (h : Row w g 34 (Mg.merge Z ++ T)) : Src w (some ⟨g, 0, none⟩) (Mg.merge Z) := by
  have h := h.src.take (Mg.merge Z).length
  rw [List.take_left] at h
  exact h
theorem getD_left (X Y : List Cd) (k : Nat) (h : k < X.length) : (X ++ Y).getD k noCd = X.getD k noCd := by
  simp [List.getD, List.getElem?_append_left h]
theorem getD_right (X Y : List Cd) (k : Nat) : (X ++ Y).getD (X.length + k) noCd = Y.getD k noCd := by
  simp [List.getD, List.getElem?_append_right]

set_option maxRecDepth 100000 in
set_option maxHeartbeats 4000000 in
/-- The law's walk. -/
theorem folds_walk (a b : Option Addr) (n1 c1 n2 c2 : Nat) (X Y : List Cd) (hX : X.length = n1) (hY : Y.length = n2) (hb1 : n1 ≤ maxLen) (hb2 : n2 ≤ maxLen) (w : World) (hsx : Src w a X) (hsy : Src w b Y) :
    Calls Try.prog 7 #[.slice a n1 c1, .slice b n2 c2] w fun e w' => e = .returned (.bool true) ∧ w.Since w.heap.size w' := by
  have HX : Hid (X.length = n1) := hX
  have HY : Hid (Y.length = n2) := hY
  have HSX : Hid (Src w a X) := hsx
  have HSY : Hid (Src w b Y) := hsy
  have HBY := bytes23 a b n1 c1 n2 c2 X Y hX hb1 hY hb2 w hsx hsy
  have HBY' : Hid (Calls Try.prog 23 #[.slice a n1 c1, .slice b n2 c2] w fun e w' => SomeBool e ∧ w' = w) := HBY
  clear hX hY hsx hsy HBY
  unfold maxLen at hb1 hb2
  go_enter Try.func7, Try.ntmps7
  go_wp2_with fail
  refine (HBY'.out).mono ?_
  rintro e w ⟨⟨r, rfl⟩, rfl⟩
  clear HBY'
  cases r with
  | false =>
    go_wp2
    go_ret
    exact ⟨rfl, World.Since.refl _ _⟩
  | true =>
    by_cases hbig : 65536 < n1 ∨ 65536 < n2
    · by_cases hb3 : 65536 < n1
      · have d1 : decide ((65536 : Int) < (n1 : Int)) = true := by simp; omega
        go_wp2
        all_goals (go_ret; exact ⟨rfl, World.Since.refl _ _⟩)
      · have d1 : decide ((65536 : Int) < (n1 : Int)) = false := by simp; omega
        have d2 : decide ((65536 : Int) < (n2 : Int)) = true := by simp; omega
        clear hbig
        go_wp2
        all_goals (go_ret; exact ⟨rfl, World.Since.refl _ _⟩)
    · have h1 : (n1 : Int) ≤ 65536 := by omega
      have h2 : (n2 : Int) ≤ 65536 := by omega
      have d1 : decide ((65536 : Int) < (n1 : Int)) = false := by simp; omega
      have d2 : decide ((65536 : Int) < (n2 : Int)) = false := by simp; omega
      have d1' : decide (65536 < n1) = false := by simp; omega
      have d2' : decide (65536 < n2) = false := by simp; omega
      clear hbig hb1 hb2
      go_wp2
      go_loop [5, 6] (fun s i => ∃ (k : Nat) (t : Int), k ≤ n1 ∧ i = .int .i64 k ∧ s = .int .i64 t) (fun _ i => n1 - (intOf i).toNat)
      case atStart => exact ⟨0, _, Nat.zero_le _, rfl, rfl⟩
      case round =>
        obtain ⟨k, t, hk, rfl, rfl⟩ := hrel
        by_cases hlt : k < n1
        · obtain ⟨b1, o1, e1, ha⟩ := HSX.out k (by rw [HX.out]; exact hlt)
          subst e1
          obtain ⟨x, hx⟩ : ∃ x, x = X.getD k noCd := ⟨_, rfl⟩
          rw [← hx] at ha
          clear hx
          obtain ⟨a0, a1, a2, a3, a4, a5⟩ := ha
          clear a1 a2 a3 a4 a5
          go_wp2
          · go_ret; exact ⟨rfl, World.Since.refl _ _⟩
          · exact ⟨⟨k + 1, _, by omega, by go_num, rfl⟩, by simp [intOf]; omega⟩
        · go_wp2
          go_loop [5, 7] (fun s i => ∃ (k : Nat) (t : Int), k ≤ n2 ∧ i = .int .i64 k ∧ s = .int .i64 t) (fun _ i => n2 - (intOf i).toNat)
          case atStart => exact ⟨0, _, Nat.zero_le _, rfl, rfl⟩
          case round =>
            obtain ⟨k2, t2, hk2, rfl, rfl⟩ := hrel
            by_cases hlt2 : k2 < n2
            · obtain ⟨b1, o1, e1, ha⟩ := HSY.out k2 (by rw [HY.out]; exact hlt2)
              subst e1
              obtain ⟨x, hx⟩ : ∃ x, x = Y.getD k2 noCd := ⟨_, rfl⟩
              rw [← hx] at ha
              clear hx
              obtain ⟨a0, a1, a2, a3, a4, a5⟩ := ha
              clear a1 a2 a3 a4 a5
              go_wp2
              · go_ret; exact ⟨rfl, World.Since.refl _ _⟩
              · exact ⟨⟨k2 + 1, _, by omega, by go_num, rfl⟩, by simp [intOf]; omega⟩
            · have hmk := run_make6 31 34 Try.underlying31 Try.zero34 (n1 + n2) (n1 + n2) (Nat.le_refl _) (by omega)
              rw [show ((n1 + n2 : Nat) : Int) = (n1 : Int) + (n2 : Int) by omega] at hmk
              obtain ⟨Z, hZ⟩ : ∃ Z, Z = X ++ Y := ⟨_, rfl⟩
              have HZ : Hid (Z = X ++ Y) := hZ
              have HZL : Hid (Z.length = n1 + n2) := by
                show Z.length = n1 + n2
                rw [hZ, List.length_append, HX.out, HY.out]
              clear hZ
              go_wp2
              go_loopw [9] (fun i wr => ∃ k : Nat, k ≤ n1 ∧ i = .int .i64 k ∧ Row wr w.heap.size 34 (filled Z (n1 + n2) k) ∧ (w.alloc (.cells (six0 (n1 + n2)) 34)).grownBy wr (some w.heap.size)) (fun i _ => n1 - (intOf i).toNat)
              case atStart => exact ⟨0, Nat.zero_le _, rfl, (row_made w 34 (n1 + n2)).cast (filled_zero Z _).symm, World.grownBy.refl _ _⟩
              case round =>
                obtain ⟨k3, hk3, rfl, hr, hg⟩ := hrel
                by_cases hlt3 : k3 < n1
                · obtain ⟨b1, o1, e1, ha⟩ := HSX.out k3 (by rw [HX.out]; exact hlt3)
                  have hbl := ha.lt
                  have hsi : w.Since w.heap.size wr := ((World.Since.refl _ w).alloc (Nat.le_refl _) (.cells (six0 (n1 + n2)) 34)).grown hg (by simp) (fun k hk => by simp at hk; omega)
                  have ha := ha.same (hsi.block b1 hbl)
                  subst e1
                  obtain ⟨x, hx⟩ : ∃ x, x = X.getD k3 noCd := ⟨_, rfl⟩
                  rw [← hx] at ha
                  have HXX : Hid (x = Z.getD k3 noCd) := by
                    show x = Z.getD k3 noCd
                    rw [hx, HZ.out, getD_left X Y k3 (by rw [HX.out]; exact hlt3)]
                  obtain ⟨a0, a1, a2, a3, a4, a5⟩ := ha
                  have ak := hr.at k3 (by rw [filled_len Z _ k3 HZL.out (by omega)]; omega)
                  obtain ⟨e0, e1, e2, e3, e4, e5⟩ := ak
                  have fr := fun p => hr.frozen p
                  have HR : Hid (Row wr w.heap.size 34 (filled Z (n1 + n2) k3)) := hr
                  have HG : Hid ((w.alloc (.cells (six0 (n1 + n2)) 34)).grownBy wr (some w.heap.size)) := hg
                  have n0 : ¬ b1 = w.heap.size := by omega
                  have i0 : (k3 : Int) < (n1 : Int) + (n2 : Int) := by omega
                  clear hx hr hg hsi
                  go_wp2
                  go_light
                  refine ⟨⟨k3 + 1, by omega, by go_num, Row.cast (Near.row (j := k3) (L := filled Z (n1 + n2) (k3)) ?_ (by rw [filled_len Z _ (k3) HZL.out (by omega)]; omega) (x := x) ?_) (by rw [HXX.out]; exact filled_succ Z _ (k3) HZL.out (by omega)), ?_⟩, by simp [intOf]; omega⟩
                  · repeat (with_reducible (first | apply Near.alloc | apply Near.drewN | apply Near.drew | (refine Near.set ?_ _ _ (by omega)) | exact Near.of_row HR.out _))
                  · constructor <;> simp [go_sem, *]
                  · repeat (with_reducible (first | apply gb_alloc | apply gb_drewN | apply gb_drew | apply gb_set | exact HG.out))
                · have HR0 : Hid (Row wr w.heap.size 34 (filled Z (n1 + n2) n1)) := by
                    have : k3 = n1 := by omega
                    subst this
                    exact hr
                  have HG0 : Hid ((w.alloc (.cells (six0 (n1 + n2)) 34)).grownBy wr (some w.heap.size)) := hg
                  clear hr hg
                  go_wp2
                  go_loopw [10] (fun i wr => ∃ k : Nat, k ≤ n2 ∧ i = .int .i64 k ∧ Row wr w.heap.size 34 (filled Z (n1 + n2) (n1 + k)) ∧ (w.alloc (.cells (six0 (n1 + n2)) 34)).grownBy wr (some w.heap.size)) (fun i _ => n2 - (intOf i).toNat)
                  case atStart => exact ⟨0, Nat.zero_le _, rfl, HR0.out, HG0.out⟩
                  case round =>
                    obtain ⟨k4, hk4, rfl, hr, hg⟩ := hrel
                    have hsi : w.Since w.heap.size wr := ((World.Since.refl _ w).alloc (Nat.le_refl _) (.cells (six0 (n1 + n2)) 34)).grown hg (by simp) (fun k hk => by simp at hk; omega)
                    by_cases hlt4 : k4 < n2
                    · obtain ⟨b1, o1, e1, ha⟩ := HSY.out k4 (by rw [HY.out]; exact hlt4)
                      have hbl := ha.lt
                      have ha := ha.same (hsi.block b1 hbl)
                      subst e1
                      obtain ⟨x, hx⟩ : ∃ x, x = Y.getD k4 noCd := ⟨_, rfl⟩
                      rw [← hx] at ha
                      have HXX : Hid (x = Z.getD (n1 + k4) noCd) := by
                        show x = Z.getD (n1 + k4) noCd
                        rw [hx, HZ.out, ← HX.out, getD_right X Y k4]
                      obtain ⟨a0, a1, a2, a3, a4, a5⟩ := ha
                      have ak := hr.at (n1 + k4) (by rw [filled_len Z _ (n1 + k4) HZL.out (by omega)]; omega)
                      obtain ⟨e0, e1, e2, e3, e4, e5⟩ := ak
                      have fr := fun p => hr.frozen p
                      have HR : Hid (Row wr w.heap.size 34 (filled Z (n1 + n2) (n1 + k4))) := hr
                      have HG : Hid ((w.alloc (.cells (six0 (n1 + n2)) 34)).grownBy wr (some w.heap.size)) := hg
                      have n0 : ¬ b1 = w.heap.size := by omega
                      have i0 : (n1 : Int) + (k4 : Int) < (n1 : Int) + (n2 : Int) := by omega
                      have i1 : (0 : Int) ≤ (n1 : Int) + (k4 : Int) := by omega
                      clear hx hr hg hsi
                      go_wp2
                      go_light
                      refine ⟨⟨k4 + 1, by omega, by go_num, Row.cast (Near.row (j := n1 + k4) (L := filled Z (n1 + n2) (n1 + k4)) ?_ (by rw [filled_len Z _ (n1 + k4) HZL.out (by omega)]; omega) (x := x) ?_) (by rw [HXX.out]; exact filled_succ Z _ (n1 + k4) HZL.out (by omega)), ?_⟩, by simp [intOf]; omega⟩
                      · repeat (with_reducible (first | apply Near.alloc | apply Near.drewN | apply Near.drew | (refine Near.set ?_ _ _ (by omega)) | exact Near.of_row HR.out _))
                      · constructor <;> simp [go_sem, *]
                      · repeat (with_reducible (first | apply gb_alloc | apply gb_drewN | apply gb_drew | apply gb_set | exact HG.out))
                    · have HR : Hid (Row wr w.heap.size 34 Z) := by
                        have : k4 = n2 := by omega
                        subst this
                        exact hr.cast (filled_all Z _ HZL.out)
                      have HI : Hid (w.Since w.heap.size wr) := hsi
                      have hwz : w.heap.size < wr.heap.size := hr.lt
                      clear hr hg hsi HR0 HG0
                      go_wp2_with fail
                      refine (zzmerge_any (some ⟨w.heap.size, 0, none⟩) (n1 + n2) (n1 + n2) Z HZL.out (by omega) _ HR.out.src).mono ?_
                      rintro e w4 ⟨g2, rfl, hg2, hr2, hi2⟩
                      have hqz := Mg.merge_len Z
                      rw [HZL.out] at hqz
                      obtain ⟨q, hq⟩ : ∃ q, q = (Mg.merge Z).length := ⟨_, rfl⟩
                      have HQ : Hid (q = (Mg.merge Z).length) := hq
                      rw [← hq] at hqz
                      rw [← hq]
                      have HZ4 : Hid (Row w4 w.heap.size 34 Z) := HR.out.of_block (hi2.block _ hwz)
                      have HI4 : Hid (w.Since w.heap.size w4) := HI.out.trans (since_mono hi2 (by omega))
                      have HW4 : Hid (Row w4 g2 34 (Mg.merge Z ++ Z.drop (Mg.merge Z).length)) := hr2
                      have hz4 : w.heap.size < w4.heap.size := HZ4.out.lt
                      have hg24 : g2 < w4.heap.size := hr2.lt
                      have hg2w : w.heap.size < g2 := by omega
                      clear hq hr2 hi2 hg2 HR HI hwz
                      go_wp2_with fail
                      refine (zzmerge_any a n1 c1 X HX.out (by omega) _ (HSX.out.since HI4.out)).mono ?_
                      rintro e w5 ⟨g3, rfl, hg3, hr3, hi3⟩
                      obtain ⟨p, hp⟩ : ∃ p, p = (Mg.merge X).length := ⟨_, rfl⟩
                      have hpx := Mg.merge_len X
                      rw [HX.out, ← hp] at hpx
                      have HP : Hid ((Mg.merge X).length = p) := hp.symm
                      rw [← hp]
                      obtain ⟨V, hV⟩ : ∃ V, V = Mg.merge X ++ Y := ⟨_, rfl⟩
                      have HV : Hid (V = Mg.merge X ++ Y) := hV
                      have HVL : Hid (V.length = p + n2) := by
                        show V.length = p + n2
                        rw [hV, List.length_append, HP.out, HY.out]
                      have HPR : Hid (Row w5 g3 34 (Mg.merge X ++ X.drop (Mg.merge X).length)) := hr3
                      have HZ5 : Hid (Row w5 w.heap.size 34 Z) := HZ4.out.of_block (hi3.block _ hz4)
                      have HW5 : Hid (Row w5 g2 34 (Mg.merge Z ++ Z.drop (Mg.merge Z).length)) := HW4.out.of_block (hi3.block _ hg24)
                      have HI5 : Hid (w.Since w.heap.size w5) := HI4.out.trans (since_mono hi3 (by omega))
                      have hz5 : w.heap.size < w5.heap.size := HZ5.out.lt
                      have hg25 : g2 < w5.heap.size := HW5.out.lt
                      have hg35 : g3 < w5.heap.size := hr3.lt
                      have HG3 : Hid (Src w5 (some ⟨g3, 0, none⟩) (Mg.merge X)) := by
                        have h := hr3.src.take (Mg.merge X).length
                        rw [List.take_left] at h
                        exact h
                      clear hp hV hr3 hi3 hg3 HZ4 HW4 HI4 hz4 hg24
                      have hmk2 := run_make6 31 34 Try.underlying31 Try.zero34 (p + n2) (p + n2) (Nat.le_refl _) (by omega)
                      rw [show ((p + n2 : Nat) : Int) = (p : Int) + (n2 : Int) by omega] at hmk2
                      go_wp2
                      go_loopw [18] (fun i wr => ∃ k : Nat, k ≤ p ∧ i = .int .i64 k ∧ Row wr w5.heap.size 34 (filled V (p + n2) k) ∧ (w5.alloc (.cells (six0 (p + n2)) 34)).grownBy wr (some w5.heap.size)) (fun i _ => p - (intOf i).toNat)
                      case atStart => exact ⟨0, Nat.zero_le _, rfl, (row_made w5 34 (p + n2)).cast (filled_zero V _).symm, World.grownBy.refl _ _⟩
                      case round =>
                        obtain ⟨k5, hk5, rfl, hr, hg⟩ := hrel
                        have hsi : w5.Since w5.heap.size wr := ((World.Since.refl _ w5).alloc (Nat.le_refl _) (.cells (six0 (p + n2)) 34)).grown hg (by simp) (fun k hk => by simp at hk; omega)
                        by_cases hlt5 : k5 < p
                        · obtain ⟨b1, o1, e1, ha⟩ := HG3.out k5 (by rw [HP.out]; exact hlt5)
                          simp only [Option.some.injEq, Addr.mk.injEq, and_true] at e1
                          obtain ⟨rfl, rfl⟩ := e1
                          have ha := ha.same (hsi.block _ hg35)
                          obtain ⟨x, hx⟩ : ∃ x, x = (Mg.merge X).getD k5 noCd := ⟨_, rfl⟩
                          rw [← hx] at ha
                          have HXX : Hid (x = V.getD k5 noCd) := by
                            show x = V.getD k5 noCd
                            rw [hx, HV.out, getD_left _ Y k5 (by rw [HP.out]; exact hlt5)]
                          obtain ⟨a0, a1, a2, a3, a4, a5⟩ := ha
                          rw [Nat.zero_add] at a0 a1 a2 a3 a4 a5
                          have ak := hr.at k5 (by rw [filled_len V _ k5 HVL.out (by omega)]; omega)
                          obtain ⟨e0, e1, e2, e3, e4, e5⟩ := ak
                          have fr := fun p => hr.frozen p
                          have HR : Hid (Row wr w5.heap.size 34 (filled V (p + n2) k5)) := hr
                          have HG : Hid ((w5.alloc (.cells (six0 (p + n2)) 34)).grownBy wr (some w5.heap.size)) := hg
                          have n0 : ¬ g3 = w5.heap.size := by omega
                          have i0 : (k5 : Int) < (p : Int) + (n2 : Int) := by omega
                          clear hx hr hg hsi
                          go_wp2
                          go_light
                          refine ⟨⟨k5 + 1, by omega, by go_num, Row.cast (Near.row (j := k5) (L := filled V (p + n2) (k5)) ?_ (by rw [filled_len V _ (k5) HVL.out (by omega)]; omega) (x := x) ?_) (by rw [HXX.out]; exact filled_succ V _ (k5) HVL.out (by omega)), ?_⟩, by simp [intOf]; omega⟩
                          · repeat (with_reducible (first | apply Near.alloc | apply Near.drewN | apply Near.drew | (refine Near.set ?_ _ _ (by omega)) | exact Near.of_row HR.out _))
                          · constructor <;> simp [go_sem, *]
                          · repeat (with_reducible (first | apply gb_alloc | apply gb_drewN | apply gb_drew | apply gb_set | exact HG.out))

                        · have HR0 : Hid (Row wr w5.heap.size 34 (filled V (p + n2) p)) := by
                            have : k5 = p := by omega
                            subst this
                            exact hr
                          have HG0 : Hid ((w5.alloc (.cells (six0 (p + n2)) 34)).grownBy wr (some w5.heap.size)) := hg
                          clear hr hg hsi
                          go_wp2
                          go_loopw [19] (fun i wr => ∃ k : Nat, k ≤ n2 ∧ i = .int .i64 k ∧ Row wr w5.heap.size 34 (filled V (p + n2) (p + k)) ∧ (w5.alloc (.cells (six0 (p + n2)) 34)).grownBy wr (some w5.heap.size)) (fun i _ => n2 - (intOf i).toNat)
                          case atStart => exact ⟨0, Nat.zero_le _, rfl, HR0.out, HG0.out⟩
                          case round =>
                            obtain ⟨k6, hk6, rfl, hr, hg⟩ := hrel
                            have hsi : w5.Since w5.heap.size wr := ((World.Since.refl _ w5).alloc (Nat.le_refl _) (.cells (six0 (p + n2)) 34)).grown hg (by simp) (fun k hk => by simp at hk; omega)
                            by_cases hlt6 : k6 < n2
                            · obtain ⟨b1, o1, e1, ha⟩ := HSY.out k6 (by rw [HY.out]; exact hlt6)
                              have hbl := ha.lt
                              have ha := (ha.same (HI5.out.block b1 hbl)).same (hsi.block b1 (by omega))
                              subst e1
                              obtain ⟨x, hx⟩ : ∃ x, x = Y.getD k6 noCd := ⟨_, rfl⟩
                              rw [← hx] at ha
                              have HXX : Hid (x = V.getD (p + k6) noCd) := by
                                show x = V.getD (p + k6) noCd
                                rw [hx, HV.out, ← HP.out, getD_right _ Y k6]
                              obtain ⟨a0, a1, a2, a3, a4, a5⟩ := ha
                              have ak := hr.at (p + k6) (by rw [filled_len V _ (p + k6) HVL.out (by omega)]; omega)
                              obtain ⟨e0, e1, e2, e3, e4, e5⟩ := ak
                              have fr := fun p => hr.frozen p
                              have HR : Hid (Row wr w5.heap.size 34 (filled V (p + n2) (p + k6))) := hr
                              have HG : Hid ((w5.alloc (.cells (six0 (p + n2)) 34)).grownBy wr (some w5.heap.size)) := hg
                              have n0 : ¬ b1 = w5.heap.size := by omega
                              have i0 : (p : Int) + (k6 : Int) < (p : Int) + (n2 : Int) := by omega
                              have i1 : (0 : Int) ≤ (p : Int) + (k6 : Int) := by omega
                              clear hx hr hg hsi
                              go_wp2
                              go_light
                              refine ⟨⟨k6 + 1, by omega, by go_num, Row.cast (Near.row (j := p + k6) (L := filled V (p + n2) (p + k6)) ?_ (by rw [filled_len V _ (p + k6) HVL.out (by omega)]; omega) (x := x) ?_) (by rw [HXX.out]; exact filled_succ V _ (p + k6) HVL.out (by omega)), ?_⟩, by simp [intOf]; omega⟩
                              · repeat (with_reducible (first | apply Near.alloc | apply Near.drewN | apply Near.drew | (refine Near.set ?_ _ _ (by omega)) | exact Near.of_row HR.out _))
                              · constructor <;> simp [go_sem, *]
                              · repeat (with_reducible (first | apply gb_alloc | apply gb_drewN | apply gb_drew | apply gb_set | exact HG.out))

                            · have HR : Hid (Row wr w5.heap.size 34 V) := by
                                have : k6 = n2 := by omega
                                subst this
                                exact hr.cast (filled_all V _ HVL.out)
                              have HZ6 : Hid (Row wr w.heap.size 34 Z) := HZ5.out.of_block (hsi.block _ hz5)
                              have HW6 : Hid (Row wr g2 34 (Mg.merge Z ++ Z.drop (Mg.merge Z).length)) := HW5.out.of_block (hsi.block _ hg25)
                              have HI6 : Hid (w.Since w.heap.size wr) := HI5.out.trans (since_mono hsi (by omega))
                              have h3 := zzmerge_any (some ⟨w5.heap.size, 0, none⟩) (p + n2) (p + n2) V HVL.out (by omega) wr HR.out.src
                              have hsame : Mg.merge V = Mg.merge Z := by rw [HV.out, HZ.out]; exact Mg.merge_cut X Y
                              rw [hsame, ← HQ.out] at h3
                              clear hr hg hsi HR0 HG0 hsame
                              go_wp2_with fail
                              refine h3.mono ?_
                              clear h3
                              rintro e w7 ⟨g5, rfl, hg5, hr5, hi5⟩
                              have HZ7 : Hid (Row w7 w.heap.size 34 Z) := HZ6.out.of_block (hi5.block _ HZ6.out.lt)
                              have HW7 : Hid (Row w7 g2 34 (Mg.merge Z ++ Z.drop q)) := by
                                have h := HW6.out.of_block (hi5.block _ HW6.out.lt)
                                rw [← HQ.out] at h
                                exact h
                              have HI7 : Hid (w.Since w.heap.size w7) := HI6.out.trans (since_mono hi5 HI6.out.size)
                              have HM1 : Hid (Src w7 (some ⟨g2, 0, none⟩) (Mg.merge Z)) := by
                                have h := HW7.out.src.take (Mg.merge Z).length
                                rw [List.take_left] at h
                                exact h
                              have HM2 : Hid (Src w7 (some ⟨g5, 0, none⟩) (Mg.merge Z)) := by
                                have h := hr5.src.take (Mg.merge Z).length
                                rw [List.take_left] at h
                                exact h
                              clear hr5 hi5 hg5 HZ6 HW6 HI6 HR HZ5 HW5 HI5 HPR HG3
                              go_wp2_with fail
                              refine (same_any (some ⟨g2, 0, none⟩) (some ⟨g5, 0, none⟩) q (n1 + n2) (p + n2) (Mg.merge Z) HQ.out.symm (by omega) _ HM1.out HM2.out).mono ?_
                              rintro e w8 ⟨rfl, m8, rfl⟩
                              rcases (show n1 + n2 = 0 ∨ 0 < n1 + n2 by omega) with hN0 | hN0
                              · have hd0 : decide ((0 : Int) < (n1 : Int) + (n2 : Int)) = false := by simp; omega
                                have hd1 : decide ((0 : Int) < (q : Int)) = false := by simp; omega
                                have hd2 : decide (0 < q) = false := by simp; omega
                                have HN0 : Hid (n1 + n2 = 0) := hN0
                                clear hN0
                                go_wp2_with fail
                                go_quiet (fail)
                                go_wp2
                                go_loopw [23] (fun i wr => ∃ k : Nat, k ≤ q ∧ i = .int .i64 k ∧ Row wr g2 34 (Mg.merge Z ++ Z.drop q) ∧ Row wr w.heap.size 34 Z ∧ w.Since w.heap.size wr) (fun i _ => q - (intOf i).toNat)
                                case atStart => exact ⟨0, Nat.zero_le _, rfl, HW7.out, HZ7.out, since_drewN (since_drewN HI7.out _) _⟩
                                case round =>
                                  obtain ⟨k7, hk7, rfl, hr7, hrz, hrs⟩ := hrel
                                  have HWR : Hid (Row wr g2 34 (Mg.merge Z ++ Z.drop q)) := hr7
                                  have HZR : Hid (Row wr w.heap.size 34 Z) := hrz
                                  have HIR : Hid (w.Since w.heap.size wr) := hrs
                                  clear hr7 hrz hrs HM1 HM2 HZ7 HW7 HI7
                                  by_cases hlt7 : k7 + 1 < q
                                  · have HMR := merge_src HWR.out
                                    have hA := HMR k7 (by rw [← HQ.out]; omega)
                                    have hB := HMR (k7 + 1) (by rw [← HQ.out]; omega)
                                    clear HMR
                                    obtain ⟨b1, o1, e1, ha⟩ := hA
                                    simp only [Option.some.injEq, Addr.mk.injEq, and_true] at e1
                                    obtain ⟨rfl, rfl⟩ := e1
                                    obtain ⟨b2, o2, e2, hb⟩ := hB
                                    simp only [Option.some.injEq, Addr.mk.injEq, and_true] at e2
                                    obtain ⟨rfl, rfl⟩ := e2
                                    have hsep := merge_sep' Z k7 (by rw [← HQ.out]; exact hlt7)
                                    obtain ⟨en, hen⟩ : ∃ en, en = ((Mg.merge Z).getD k7 noCd).en := ⟨_, rfl⟩
                                    obtain ⟨st, hst⟩ : ∃ st, st = ((Mg.merge Z).getD (k7 + 1) noCd).st := ⟨_, rfl⟩
                                    have a2 := ha.c2
                                    have b1 := hb.c1
                                    rw [← hen] at a2 hsep
                                    rw [← hst] at b1 hsep
                                    rw [Nat.zero_add] at a2 b1
                                    clear ha hb hen hst
                                    have hd7 : decide (st < en) = false := by simp; omega
                                    have j0 : (k7 : Int) + 1 < (q : Int) := by omega
                                    have j1 : (k7 : Int) < (q : Int) := by omega
                                    go_wp2_with fail
                                    go_quiet (fail)
                                    go_wp2
                                    exact ⟨⟨k7 + 1, by omega, by go_num, HWR.out.drewN _, HZR.out.drewN _, since_drewN HIR.out _⟩, by simp [intOf]; omega⟩
                                  · have hd8 : decide ((k7 : Int) + 1 < (q : Int)) = false := by simp; omega
                                    have j2 : (q : Int) ≤ (n1 : Int) + (n2 : Int) := by omega
                                    have j3 : (0 : Int) ≤ (q : Int) := by omega
                                    by_cases hqn : n1 + n2 = q
                                    · have HSM : Hid (∀ m, Calls Try.prog 22 #[.slice (some ⟨g2, 0, none⟩) 0 0, .slice (some ⟨w.heap.size, 0, none⟩) 0 0] (wr.drewN m) fun e w' => e = .returned (.bool true) ∧ ∃ k, w' = (wr.drewN m).drewN k) :=
                                        fun m => same_any (some ⟨g2, 0, none⟩) (some ⟨w.heap.size, 0, none⟩) 0 0 0 [] rfl (by omega) (wr.drewN m) (Src.nil _ _) (Src.nil _ _)
                                      go_wp2_with fail
                                      go_quiet ((go_at_call 22; exact Calls.quiet_of (HSM.out _)))
                                      go_wp2
                                      go_ret
                                      exact ⟨rfl, since_drewN HIR.out _⟩
                                    · have hq2 : q < n1 + n2 := by omega
                                      have hs1 := HWR.out.src.drop q
                                      rw [List.drop_left' HQ.out.symm, Nat.zero_add] at hs1
                                      have hs2 := HZR.out.src.drop q
                                      rw [Nat.zero_add] at hs2
                                      have HSM : Hid (∀ m, Calls Try.prog 22 #[.slice (some ⟨g2, q * 6, none⟩) (n1 + n2 - q) (n1 + n2 - q), .slice (some ⟨w.heap.size, q * 6, none⟩) (n1 + n2 - q) (n1 + n2 - q)] (wr.drewN m) fun e w' => e = .returned (.bool true) ∧ ∃ k, w' = (wr.drewN m).drewN k) :=
                                        fun m => same_any (some ⟨g2, q * 6, none⟩) (some ⟨w.heap.size, q * 6, none⟩) (n1 + n2 - q) (n1 + n2 - q) (n1 + n2 - q) (Z.drop q) (by rw [List.length_drop, HZL.out]) (by omega) (wr.drewN m) (hs1.drewN m) (hs2.drewN m)
                                      clear hs1 hs2
                                      go_wp2_with fail
                                      go_quiet ((go_at_call 22; exact Calls.quiet_of (HSM.out _)))
                                      go_wp2
                                      go_ret
                                      exact ⟨rfl, since_drewN HIR.out _⟩
                              · have hqp : 0 < q := by rw [HQ.out]; exact Mg.merge_pos Z (by rw [HZL.out]; omega)
                                have hd0 : decide ((0 : Int) < (n1 : Int) + (n2 : Int)) = true := by simp; omega
                                have hZ0 := HZ7.out.at 0 (by rw [HZL.out]; omega)
                                have hW0 := HW7.out.at 0 (by rw [List.length_append, ← HQ.out]; omega)
                                have hst0 : ((Mg.merge Z ++ Z.drop q).getD 0 noCd).st = (Z.getD 0 noCd).st := by
                                  rw [getD_left _ _ 0 (by rw [← HQ.out]; exact hqp)]
                                  exact first_st Z (by rw [HZL.out]; omega)
                                obtain ⟨s0, hs0⟩ : ∃ s0, s0 = (Z.getD 0 noCd).st := ⟨_, rfl⟩
                                have z1 := hZ0.c1
                                have v1 := hW0.c1
                                rw [hst0, ← hs0] at v1
                                rw [← hs0] at z1
                                simp only [Nat.zero_mul, Nat.zero_add] at z1 v1
                                have l0 : (0 : Int) < (q : Int) := by omega
                                have l1 : (0 : Int) < (n1 : Int) + (n2 : Int) := by omega
                                clear hZ0 hW0 hst0 hs0
                                go_wp2_with fail
                                go_quiet (fail)
                                go_wp2
                                clear z1 v1
                                go_loopw [23] (fun i wr => ∃ k : Nat, k ≤ q ∧ i = .int .i64 k ∧ Row wr g2 34 (Mg.merge Z ++ Z.drop q) ∧ Row wr w.heap.size 34 Z ∧ w.Since w.heap.size wr) (fun i _ => q - (intOf i).toNat)
                                case atStart => exact ⟨0, Nat.zero_le _, rfl, HW7.out, HZ7.out, since_drewN (since_drewN HI7.out _) _⟩
                                case round =>
                                  obtain ⟨k7, hk7, rfl, hr7, hrz, hrs⟩ := hrel
                                  have HWR : Hid (Row wr g2 34 (Mg.merge Z ++ Z.drop q)) := hr7
                                  have HZR : Hid (Row wr w.heap.size 34 Z) := hrz
                                  have HIR : Hid (w.Since w.heap.size wr) := hrs
                                  clear hr7 hrz hrs HM1 HM2 HZ7 HW7 HI7
                                  by_cases hlt7 : k7 + 1 < q
                                  · have HMR := merge_src HWR.out
                                    have hA := HMR k7 (by rw [← HQ.out]; omega)
                                    have hB := HMR (k7 + 1) (by rw [← HQ.out]; omega)
                                    clear HMR
                                    obtain ⟨b1, o1, e1, ha⟩ := hA
                                    simp only [Option.some.injEq, Addr.mk.injEq, and_true] at e1
                                    obtain ⟨rfl, rfl⟩ := e1
                                    obtain ⟨b2, o2, e2, hb⟩ := hB
                                    simp only [Option.some.injEq, Addr.mk.injEq, and_true] at e2
                                    obtain ⟨rfl, rfl⟩ := e2
                                    have hsep := merge_sep' Z k7 (by rw [← HQ.out]; exact hlt7)
                                    obtain ⟨en, hen⟩ : ∃ en, en = ((Mg.merge Z).getD k7 noCd).en := ⟨_, rfl⟩
                                    obtain ⟨st, hst⟩ : ∃ st, st = ((Mg.merge Z).getD (k7 + 1) noCd).st := ⟨_, rfl⟩
                                    have a2 := ha.c2
                                    have b1 := hb.c1
                                    rw [← hen] at a2 hsep
                                    rw [← hst] at b1 hsep
                                    rw [Nat.zero_add] at a2 b1
                                    clear ha hb hen hst
                                    have hd7 : decide (st < en) = false := by simp; omega
                                    have j0 : (k7 : Int) + 1 < (q : Int) := by omega
                                    have j1 : (k7 : Int) < (q : Int) := by omega
                                    go_wp2_with fail
                                    go_quiet (fail)
                                    go_wp2
                                    exact ⟨⟨k7 + 1, by omega, by go_num, HWR.out.drewN _, HZR.out.drewN _, since_drewN HIR.out _⟩, by simp [intOf]; omega⟩
                                  · have hd8 : decide ((k7 : Int) + 1 < (q : Int)) = false := by simp; omega
                                    have j2 : (q : Int) ≤ (n1 : Int) + (n2 : Int) := by omega
                                    have j3 : (0 : Int) ≤ (q : Int) := by omega
                                    by_cases hqn : n1 + n2 = q
                                    · have HSM : Hid (∀ m, Calls Try.prog 22 #[.slice (some ⟨g2, 0, none⟩) 0 0, .slice (some ⟨w.heap.size, 0, none⟩) 0 0] (wr.drewN m) fun e w' => e = .returned (.bool true) ∧ ∃ k, w' = (wr.drewN m).drewN k) :=
                                        fun m => same_any (some ⟨g2, 0, none⟩) (some ⟨w.heap.size, 0, none⟩) 0 0 0 [] rfl (by omega) (wr.drewN m) (Src.nil _ _) (Src.nil _ _)
                                      go_wp2_with fail
                                      go_quiet ((go_at_call 22; exact Calls.quiet_of (HSM.out _)))
                                      go_wp2
                                      go_ret
                                      exact ⟨rfl, since_drewN HIR.out _⟩
                                    · have hq2 : q < n1 + n2 := by omega
                                      have hs1 := HWR.out.src.drop q
                                      rw [List.drop_left' HQ.out.symm, Nat.zero_add] at hs1
                                      have hs2 := HZR.out.src.drop q
                                      rw [Nat.zero_add] at hs2
                                      have HSM : Hid (∀ m, Calls Try.prog 22 #[.slice (some ⟨g2, q * 6, none⟩) (n1 + n2 - q) (n1 + n2 - q), .slice (some ⟨w.heap.size, q * 6, none⟩) (n1 + n2 - q) (n1 + n2 - q)] (wr.drewN m) fun e w' => e = .returned (.bool true) ∧ ∃ k, w' = (wr.drewN m).drewN k) :=
                                        fun m => same_any (some ⟨g2, q * 6, none⟩) (some ⟨w.heap.size, q * 6, none⟩) (n1 + n2 - q) (n1 + n2 - q) (n1 + n2 - q) (Z.drop q) (by rw [List.length_drop, HZL.out]) (by omega) (wr.drewN m) (hs1.drewN m) (hs2.drewN m)
                                      clear hs1 hs2
                                      go_wp2_with fail
                                      go_quiet ((go_at_call 22; exact Calls.quiet_of (HSM.out _)))
                                      go_wp2
                                      go_ret
                                      exact ⟨rfl, since_drewN HIR.out _⟩

end Go.Proofs.Qxb6621684a
