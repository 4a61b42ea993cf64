import Derived.Test.Qxb6621684aSmall
import Derived.Test.Qxb6621684aState
import Derived.Deep.RegionHeld3
import Derived.Deep.RegionWith
namespace Go.Proofs.Qxb6621684a
open Go.RowKit

theorem Try.info53 : (Try.prog.info? 53).map (fun i => i.size) = some 6 := by kernel_rfl
theorem info_six {P : Program} {e : TypeId} (h : (P.info? e).map (fun i => i.size) = some 6) : ∃ i, P.info? e = some i ∧ i.size = 6 := by
  obtain ⟨i, hi, hs⟩ := Option.map_eq_some_iff.1 h
  exact ⟨i, hi, hs⟩

theorem cons_of_len {L : List Cd} {j : Nat} (h : L.length = j + 1) : ∃ m r, L = m :: r ∧ r.length = j := by
  match L, h with
  | m :: r, h => exact ⟨m, r, rfl, by simpa using h⟩
theorem new2 (w : World) (o : Obj) (n : Nat) (o' : Obj) : (((w.alloc o).drewN n).alloc o').heap[w.heap.size + 1]? = some o' := by
  have h := heap_alloc_new ((w.alloc o).drewN n) o'
  have e : ((w.alloc o).drewN n).heap.size = w.heap.size + 1 := by simp
  rw [e] at h
  exact h
theorem new4 (w : World) (o1 o2 o3 : Obj) (n : Nat) (o' : Obj) : (((((w.alloc o1).alloc o2).alloc o3).drewN n).alloc o').heap[w.heap.size + 3]? = some o' := by
  have h := heap_alloc_new ((((w.alloc o1).alloc o2).alloc o3).drewN n) o'
  have e : ((((w.alloc o1).alloc o2).alloc o3).drewN n).heap.size = w.heap.size + 3 := by simp
  rw [e] at h
  exact h
theorem give_no {m c : Cd} (h : Mg.givesB m c = false) : Mg.give m c = m := by simp [Mg.give, h]
theorem set_self {L : List Cd} {j : Nat} {m : Cd} (h : L.getD j noCd = m) : L.set j m = L := by
  subst h
  by_cases hj : j < L.length
  · simp [List.getD, hj]
  · exact List.set_eq_of_length_le (by omega)
theorem Mg.memK_last' {l : List Cd} {k j : Nat} {m : Cd} {r : List Cd} (h : Mg.rsK l k = m :: r) (hj : r.length = j) : (Mg.memK l k).getD j noCd = m := by
  subst hj
  exact Mg.memK_last h
theorem better_1 {m c : Cd} (h : m.sz < c.sz) : Mg.betterB m c = true := by simp [Mg.betterB, h]
theorem better_2 {m c : Cd} (h1 : m.sz ≤ c.sz) (h2 : c.sz ≤ m.sz) (h : c.rk < m.rk) : Mg.betterB m c = true := by
  have : c.sz = m.sz := by omega
  simp [Mg.betterB, h, this]
theorem better_3 {m c : Cd} (h : c.sz < m.sz) : Mg.betterB m c = false := by
  have h1 : ¬ m.sz < c.sz := by omega
  have h2 : ¬ c.sz = m.sz := by omega
  simp [Mg.betterB, h1, h2]
theorem better_4 {m c : Cd} (h : c.sz ≤ m.sz) (h3 : m.rk ≤ c.rk) : Mg.betterB m c = false := by
  have h1 : ¬ m.sz < c.sz := by omega
  have h2 : ¬ c.rk < m.rk := by omega
  simp [Mg.betterB, h1, h2]
theorem join_better {m c : Cd} (h : Mg.betterB m c = true) : Mg.join m c = ⟨c.ty, m.st, Mg.maxB m.en c.en, c.rk, c.sz, Mg.shared ⟨c.ty, m.st, m.en, c.rk, c.sz, m.sh⟩ c⟩ := by simp [Mg.join, Mg.join1, Mg.pick, h]
theorem join_worse {m c : Cd} (h : Mg.betterB m c = false) : Mg.join m c = ⟨m.ty, m.st, Mg.maxB m.en c.en, m.rk, m.sz, Mg.shared m c⟩ := by simp [Mg.join, Mg.join1, Mg.pick, h]
theorem new4' (w : World) (o1 o2 o3 : Obj) (n : Nat) (o' : Obj) (a1 a2 a3 : Addr) (v1 v2 v3 : Value) (X : World) (hX : X = (((((((w.setCell a1 v1).setCell a2 v2).setCell a3 v3).alloc o1).alloc o2).alloc o3).drewN n)) : (X.alloc o').heap[w.heap.size + 3]? = some o' := by
  subst hX
  have h := heap_alloc_new (((((((w.setCell a1 v1).setCell a2 v2).setCell a3 v3).alloc o1).alloc o2).alloc o3).drewN n) o'
  have e : (((((((w.setCell a1 v1).setCell a2 v2).setCell a3 v3).alloc o1).alloc o2).alloc o3).drewN n).heap.size = w.heap.size + 3 := by simp
  rw [e] at h
  exact h
theorem give_yes {m c : Cd} (h : Mg.givesB m c = true) : Mg.give m c = Mg.cut m := by simp [Mg.give, h]
theorem cut_en {m c : Cd} (h : m.sh ≤ c.st) : (Mg.cut m).en ≤ c.st := h
theorem gives_parts {m c : Cd} (h : Mg.givesB m c = true) : 0 < m.sh ∧ m.sh ≤ c.st ∧ c.st < m.en := by
  simpa [Mg.givesB] using h
set_option maxRecDepth 100000 in
set_option maxHeartbeats 8000000 in
theorem merge_any (b n : Nat) (l : List Cd) (hn : l.length = n) (hbd : n ≤ 1000000000) (w : World) (hrow : Row w b 53 l) :
    Calls Try.prog 32 #[.slice (some ⟨b, 0, none⟩) n n] w fun e w' => e = .returned (.slice (some ⟨b, 0, none⟩) (Mg.merge l).length n) ∧ Row w' b 53 (Mg.merge l ++ l.drop (Mg.merge l).length) ∧ w.grownBy w' (some b) := by
  have HN : Hid (l.length = n) := hn
  obtain ⟨i0, hi, hz1⟩ := info_six Try.info53
  clear hn
  go_enter Try.func32, Try.ntmps32
  go_wp2
  go_loopw [3, 13] (fun v i wr => ∃ k q : Nat, k ≤ n ∧ i = .int .i64 k ∧ v = .slice (some ⟨b, 0, none⟩) q n ∧ (Mg.rsK l k).length = q ∧ Row wr b 53 (Mg.memK l k) ∧ w.grownBy wr (some b)) (fun _ i _ => n - (intOf i).toNat)
  case atStart => exact ⟨0, 0, Nat.zero_le _, rfl, rfl, by rw [Mg.rsK_zero]; rfl, hrow.cast (Mg.memK_zero l).symm, World.grownBy.refl _ _⟩
  case round =>
    obtain ⟨k, q, hk, rfl, rfl, hq, hr, hg⟩ := hrel
    by_cases hlt : k < n
    · have hbl := hr.lt
      have hml := Mg.memK_len l k (by rw [HN.out]; omega)
      have hle := Mg.rsK_le l k
      rw [HN.out] at hml
      have ak := hr.at k (by omega)
      rw [Mg.memK_at] at ak
      have HG : Hid (w.grownBy wr (some b)) := hg
      have HR : Hid (Row wr b 53 (Mg.memK l k)) := hr
      have fr := fun p => hr.frozen p
      clear hg hr hrow
      obtain ⟨c, hc⟩ : ∃ c, c = l.getD k noCd := ⟨_, rfl⟩
      rw [← hc] at ak
      have HC : Hid (c = l.getD k noCd) := hc
      clear hc
      obtain ⟨k0, k1, k2, k3, k4, k5⟩ := ak
      cases q with
      | zero =>
        have HRS : Hid (Mg.rsK l k = []) := List.eq_nil_of_length_eq_zero hq
        clear hq hle hml
        go_wp2_with fail
        go_quiet (fail)
        go_wp2_with fail
        go_quiet (fail)
        go_wp2_with (at_builtin; refine wpList_append_row _ (by rfl) (.tmp 76) (.tmp 78) 49 (by rfl) 53 i0 Try.underlying49 hi hz1 b 0 n (wr.heap.size + 1) (Mg.memK l k) c (by rfl) (by rfl) ?h1 ?h2 ?h3 ?h4 ?_)
        case h1 => repeat (with_reducible (first | apply Row.alloc | apply Row.drewN | apply Row.drew | exact HR.out))
        case h2 => rw [Mg.memK_len l k (by rw [HN.out]; omega), HN.out]; omega
        case h3 => rw [Mg.memK_len l k (by rw [HN.out]; omega), HN.out]
        case h4 => exact new2 _ _ _ _
        intro w' hR' hG' _
        go_wp2
        have hst := Mg.memK_first (l := l) (k := k) (by rw [HN.out]; omega) HRS.out
        rw [← HC.out] at hst
        refine ⟨⟨k + 1, 1, by omega, by go_num, rfl, hst.2, hR'.cast hst.1, gb_trans ?_ hG'⟩, by simp [intOf]; omega⟩
        repeat (with_reducible (first | apply gb_alloc | apply gb_drewN | apply gb_drew | exact HG.out))
      | succ j =>
        obtain ⟨m, r, hmr, hj⟩ := cons_of_len hq
        have HRS : Hid (Mg.rsK l k = m :: r) := hmr
        have aj := HR.out.at j (by rw [Mg.memK_len l k (by rw [HN.out]; omega), HN.out]; omega)
        have hlast := Mg.memK_last hmr
        rw [hj] at hlast
        rw [hlast] at aj
        have HJ : Hid (r.length = j) := hj
        clear hq hml hlast hmr hj
        rw [HRS.out] at hle
        simp only [List.length_cons, HJ.out] at hle
        obtain ⟨j0, j1, j2, j3, j4, j5⟩ := aj
        have hb1 : b < wr.heap.size + 1 := by omega
        have hb2 : b < wr.heap.size + 2 := by omega
        have hb3 : b < wr.heap.size + 3 := by omega
        have hb4 : b < wr.heap.size + 4 := by omega
        have hcj : (j : Int) < (j : Int) + 1 := by omega
        by_cases hB : Mg.givesB m c = true
        · obtain ⟨hg1, hg2, hg3⟩ := gives_parts hB
          go_wp2_with fail
          go_region_held3 (fun w' => w'.cell? ⟨b, j * 6, none⟩ = some (.string m.ty) ∧ w'.cell? ⟨b, j * 6 + 1, none⟩ = some (.int .i64 m.st) ∧ w'.cell? ⟨b, j * 6 + 2, none⟩ = some (.int .i64 m.en) ∧ w'.cell? ⟨b, j * 6 + 3, none⟩ = some (.int .i64 m.rk) ∧ w'.cell? ⟨b, j * 6 + 4, none⟩ = some (.int .i64 m.sz) ∧ w'.cell? ⟨b, j * 6 + 5, none⟩ = some (.int .i64 m.sh)
            ∧ w'.cell? ⟨wr.heap.size, 0, none⟩ = some (.string c.ty) ∧ w'.cell? ⟨wr.heap.size, 1, none⟩ = some (.int .i64 c.st) ∧ w'.cell? ⟨wr.heap.size, 2, none⟩ = some (.int .i64 c.en) ∧ w'.cell? ⟨wr.heap.size, 3, none⟩ = some (.int .i64 c.rk) ∧ w'.cell? ⟨wr.heap.size, 4, none⟩ = some (.int .i64 c.sz) ∧ w'.cell? ⟨wr.heap.size, 5, none⟩ = some (.int .i64 c.sh))
            (simp [go_sem, *])
            ((go_at_call 33; refine (gives_any m c _).mono ?_; rintro e w' ⟨rfl, o1, o2, rfl⟩))
          go_wp2_with fail
          by_cases hmn : wrap64 (m.sh - m.st) < m.sz
          · have HCZ : Hid (Mg.minB m.sz (wrap64 (m.sh - m.st)) = wrap64 (m.sh - m.st)) := by show Mg.minB _ _ = _; simp [Mg.minB, hmn]
            go_region
            go_wp2_with fail
            go_quiet (fail)
            go_wp2_with (at_builtin; refine wpList_append_row _ (by rfl) (.tmp 76) (.tmp 78) 49 (by rfl) 53 i0 Try.underlying49 hi hz1 b (j + 1) n (wr.heap.size + 3) ((Mg.memK l k).set j (Mg.cut m)) c (by rfl) (by rfl) ?f1 ?f2 ?f3 ?f4 ?_)
            case f1 =>
              go_light
              refine Near.row ?_ (by rw [Mg.memK_len l k (by rw [HN.out]; omega), HN.out]; omega) ?_
              · repeat (with_reducible (first | apply Near.alloc | apply Near.drewN | apply Near.drew | (refine Near.set ?_ _ _ (by omega)) | exact Near.of_row HR.out _))
              · constructor <;> simp [go_sem, Mg.cut, HCZ.out, *]
            case f2 => rw [List.length_set, Mg.memK_len l k (by rw [HN.out]; omega), HN.out]; omega
            case f3 => rw [List.length_set, Mg.memK_len l k (by rw [HN.out]; omega), HN.out]
            case f4 => exact new4' _ _ _ _ _ _ _ _ _ _ _ _ _ rfl
            intro w' hR' hG' _
            go_wp2
            have hst := Mg.memK_apart (l := l) (k := k) (m := m) (m' := Mg.cut m) (r := r) (by rw [HN.out]; omega) HRS.out (by rw [← HC.out, Mg.step_cons, give_yes hB, if_pos (cut_en hg2)])
            rw [← HC.out, HJ.out] at hst
            refine ⟨⟨k + 1, j + 2, by omega, by go_num, rfl, hst.2, hR'.cast hst.1, gb_trans ?_ hG'⟩, by simp [intOf]; omega⟩
            repeat (with_reducible (first | apply gb_alloc | apply gb_drewN | apply gb_drew | apply gb_set | exact HG.out))
          · have HCZ : Hid (Mg.minB m.sz (wrap64 (m.sh - m.st)) = m.sz) := by show Mg.minB _ _ = _; simp [Mg.minB, hmn]
            go_region
            go_wp2_with fail
            go_quiet (fail)
            go_wp2_with (at_builtin; refine wpList_append_row _ (by rfl) (.tmp 76) (.tmp 78) 49 (by rfl) 53 i0 Try.underlying49 hi hz1 b (j + 1) n (wr.heap.size + 3) ((Mg.memK l k).set j (Mg.cut m)) c (by rfl) (by rfl) ?e1 ?e2 ?e3 ?e4 ?_)
            case e1 =>
              go_light
              refine Near.row ?_ (by rw [Mg.memK_len l k (by rw [HN.out]; omega), HN.out]; omega) ?_
              · repeat (with_reducible (first | apply Near.alloc | apply Near.drewN | apply Near.drew | (refine Near.set ?_ _ _ (by omega)) | exact Near.of_row HR.out _))
              · constructor <;> simp [go_sem, Mg.cut, HCZ.out, *]
            case e2 => rw [List.length_set, Mg.memK_len l k (by rw [HN.out]; omega), HN.out]; omega
            case e3 => rw [List.length_set, Mg.memK_len l k (by rw [HN.out]; omega), HN.out]
            case e4 => exact new4' _ _ _ _ _ _ _ _ _ _ _ _ _ rfl
            intro w' hR' hG' _
            go_wp2
            have hst := Mg.memK_apart (l := l) (k := k) (m := m) (m' := Mg.cut m) (r := r) (by rw [HN.out]; omega) HRS.out (by rw [← HC.out, Mg.step_cons, give_yes hB, if_pos (cut_en hg2)])
            rw [← HC.out, HJ.out] at hst
            refine ⟨⟨k + 1, j + 2, by omega, by go_num, rfl, hst.2, hR'.cast hst.1, gb_trans ?_ hG'⟩, by simp [intOf]; omega⟩
            repeat (with_reducible (first | apply gb_alloc | apply gb_drewN | apply gb_drew | apply gb_set | exact HG.out))
        · have hB' : Mg.givesB m c = false := by simpa using hB
          clear hB
          go_wp2_with fail
          go_region_held3 (fun w' => w'.cell? ⟨b, j * 6, none⟩ = some (.string m.ty) ∧ w'.cell? ⟨b, j * 6 + 1, none⟩ = some (.int .i64 m.st) ∧ w'.cell? ⟨b, j * 6 + 2, none⟩ = some (.int .i64 m.en) ∧ w'.cell? ⟨b, j * 6 + 3, none⟩ = some (.int .i64 m.rk) ∧ w'.cell? ⟨b, j * 6 + 4, none⟩ = some (.int .i64 m.sz) ∧ w'.cell? ⟨b, j * 6 + 5, none⟩ = some (.int .i64 m.sh)
            ∧ w'.cell? ⟨wr.heap.size, 0, none⟩ = some (.string c.ty) ∧ w'.cell? ⟨wr.heap.size, 1, none⟩ = some (.int .i64 c.st) ∧ w'.cell? ⟨wr.heap.size, 2, none⟩ = some (.int .i64 c.en) ∧ w'.cell? ⟨wr.heap.size, 3, none⟩ = some (.int .i64 c.rk) ∧ w'.cell? ⟨wr.heap.size, 4, none⟩ = some (.int .i64 c.sz) ∧ w'.cell? ⟨wr.heap.size, 5, none⟩ = some (.int .i64 c.sh))
            (simp [go_sem, *])
            ((go_at_call 33; refine (gives_any m c _).mono ?_; rintro e w' ⟨rfl, o1, o2, rfl⟩))
          go_wp2_with fail
          by_cases hap : m.en ≤ c.st
          · go_quiet (fail)
            go_wp2_with (at_builtin; refine wpList_append_row _ (by rfl) (.tmp 76) (.tmp 78) 49 (by rfl) 53 i0 Try.underlying49 hi hz1 b (j + 1) n (wr.heap.size + 3) (Mg.memK l k) c (by rfl) (by rfl) ?g1 ?g2 ?g3 ?g4 ?_)
            case g1 => repeat (with_reducible (first | apply Row.alloc | apply Row.drewN | apply Row.drew | exact HR.out))
            case g2 => rw [Mg.memK_len l k (by rw [HN.out]; omega), HN.out]; omega
            case g3 => rw [Mg.memK_len l k (by rw [HN.out]; omega), HN.out]
            case g4 => exact new4 _ _ _ _ _ _
            intro w' hR' hG' _
            go_wp2
            have hst := Mg.memK_apart (l := l) (k := k) (m := m) (m' := m) (r := r) (by rw [HN.out]; omega) HRS.out (by rw [← HC.out, Mg.step_cons, give_no hB', if_pos hap])
            rw [← HC.out, HJ.out] at hst
            refine ⟨⟨k + 1, j + 2, by omega, by go_num, rfl, hst.2, hR'.cast ?_, gb_trans ?_ hG'⟩, by simp [intOf]; omega⟩
            · rw [← hst.1, set_self (Mg.memK_last' HRS.out HJ.out)]
            · repeat (with_reducible (first | apply gb_alloc | apply gb_drewN | apply gb_drew | exact HG.out))
          · have hap' : decide (m.en ≤ c.st) = false := by simpa using hap
            have hap2 : c.st < m.en := by omega
            go_quiet (fail)
            go_wp2_with fail
            by_cases hbt : m.sz < c.sz ∨ (m.sz ≤ c.sz ∧ c.rk < m.rk)
            · have HBT : Hid (Mg.betterB m c = true) := by
                rcases hbt with h | ⟨h1, h2⟩
                · exact better_1 h
                · by_cases h : m.sz < c.sz
                  · exact better_1 h
                  · exact better_2 h1 (by omega) h2
              have hsh := shared_any ⟨c.ty, m.st, m.en, c.rk, c.sz, m.sh⟩ c
              dsimp only at hsh
              have HSH : Hid (∀ w : World, Calls Try.prog 34 #[.agg #[.string c.ty, .int .i64 m.st, .int .i64 m.en, .int .i64 c.rk, .int .i64 c.sz, .int .i64 m.sh], .agg #[.string c.ty, .int .i64 c.st, .int .i64 c.en, .int .i64 c.rk, .int .i64 c.sz, .int .i64 c.sh]] w fun e w' => e = .returned (.int .i64 (Mg.shared ⟨c.ty, m.st, m.en, c.rk, c.sz, m.sh⟩ c)) ∧ ∃ o1 o2 : Array Value, w' = (w.alloc (.cells o1 53)).alloc (.cells o2 53)) := hsh
              clear hsh
              by_cases hb1' : m.sz < c.sz
              · clear hbt
                go_quiet (fail)
                go_wp2_with fail
                go_region
                go_wp2_with fail
                go_region_with (go_at_call 34; refine (HSH.out _).mono ?_; rintro e w' ⟨rfl, o3, o4, rfl⟩)
                all_goals
                  go_wp2_with fail
                  go_region
                  go_wp2
                  go_light
                  have hjl : j < (Mg.memK l k).length := by rw [Mg.memK_len l k (by rw [HN.out]; omega), HN.out]; omega
                  have hst := Mg.memK_join (l := l) (k := k) (m := m) (x := ⟨c.ty, m.st, Mg.maxB m.en c.en, c.rk, c.sz, Mg.shared ⟨c.ty, m.st, m.en, c.rk, c.sz, m.sh⟩ c⟩) (r := r) (by rw [HN.out]; omega) HRS.out (by rw [← HC.out, Mg.step_cons, give_no hB', if_neg (by omega), join_better HBT.out])
                  rw [HJ.out] at hst
                  refine ⟨⟨k + 1, j + 1, by omega, by go_num, rfl, hst.2, Row.cast (Near.row (j := j) (L := Mg.memK l k) ?_ hjl ?_) hst.1, ?_⟩, by simp [intOf]; omega⟩
                  · repeat (with_reducible (first | apply Near.alloc | apply Near.drewN | apply Near.drew | (refine Near.set ?_ _ _ (by omega)) | exact Near.of_row HR.out _))
                  · constructor <;> simp [go_sem, Mg.maxB, *]
                  · repeat (with_reducible (first | apply gb_alloc | apply gb_drewN | apply gb_drew | apply gb_set | exact HG.out))
              · have hb2a : m.sz ≤ c.sz := by omega
                have hb2b : c.sz ≤ m.sz := by omega
                have hb2c : c.rk < m.rk := by omega
                have hb2d : decide (m.sz < c.sz) = false := by simp; omega
                have hb2e : (c.sz == m.sz) = true := by simp; omega
                clear hbt hb1'
                go_quiet (fail)
                go_wp2_with fail
                go_region
                go_wp2_with fail
                go_region_with (go_at_call 34; refine (HSH.out _).mono ?_; rintro e w' ⟨rfl, o3, o4, rfl⟩)
                all_goals
                  go_wp2_with fail
                  go_region
                  go_wp2
                  go_light
                  have hjl : j < (Mg.memK l k).length := by rw [Mg.memK_len l k (by rw [HN.out]; omega), HN.out]; omega
                  have hst := Mg.memK_join (l := l) (k := k) (m := m) (x := ⟨c.ty, m.st, Mg.maxB m.en c.en, c.rk, c.sz, Mg.shared ⟨c.ty, m.st, m.en, c.rk, c.sz, m.sh⟩ c⟩) (r := r) (by rw [HN.out]; omega) HRS.out (by rw [← HC.out, Mg.step_cons, give_no hB', if_neg (by omega), join_better HBT.out])
                  rw [HJ.out] at hst
                  refine ⟨⟨k + 1, j + 1, by omega, by go_num, rfl, hst.2, Row.cast (Near.row (j := j) (L := Mg.memK l k) ?_ hjl ?_) hst.1, ?_⟩, by simp [intOf]; omega⟩
                  · repeat (with_reducible (first | apply Near.alloc | apply Near.drewN | apply Near.drew | (refine Near.set ?_ _ _ (by omega)) | exact Near.of_row HR.out _))
                  · constructor <;> simp [go_sem, Mg.maxB, *]
                  · repeat (with_reducible (first | apply gb_alloc | apply gb_drewN | apply gb_drew | apply gb_set | exact HG.out))
            · have HBT : Hid (Mg.betterB m c = false) := by
                by_cases h : c.sz < m.sz
                · exact better_3 h
                · exact better_4 (by omega) (by omega)
              have hb2d : decide (m.sz < c.sz) = false := by simp; omega
              by_cases hb3' : c.sz < m.sz
              · have hb3e : (c.sz == m.sz) = false := by simp; omega
                clear hbt
                go_quiet (fail)
                go_wp2_with fail
                go_region_with (go_at_call 34; refine (shared_any m c _).mono ?_; rintro e w' ⟨rfl, o3, o4, rfl⟩)
                all_goals
                  go_wp2_with fail
                  go_region
                  go_wp2
                  go_light
                  have hjl : j < (Mg.memK l k).length := by rw [Mg.memK_len l k (by rw [HN.out]; omega), HN.out]; omega
                  have hst := Mg.memK_join (l := l) (k := k) (m := m) (x := ⟨m.ty, m.st, Mg.maxB m.en c.en, m.rk, m.sz, Mg.shared m c⟩) (r := r) (by rw [HN.out]; omega) HRS.out (by rw [← HC.out, Mg.step_cons, give_no hB', if_neg (by omega), join_worse HBT.out])
                  rw [HJ.out] at hst
                  refine ⟨⟨k + 1, j + 1, by omega, by go_num, rfl, hst.2, Row.cast (Near.row (j := j) (L := Mg.memK l k) ?_ hjl ?_) hst.1, ?_⟩, by simp [intOf]; omega⟩
                  · repeat (with_reducible (first | apply Near.alloc | apply Near.drewN | apply Near.drew | (refine Near.set ?_ _ _ (by omega)) | exact Near.of_row HR.out _))
                  · constructor <;> simp [go_sem, Mg.maxB, *]
                  · repeat (with_reducible (first | apply gb_alloc | apply gb_drewN | apply gb_drew | apply gb_set | exact HG.out))
              · have hb4a : m.sz ≤ c.sz := by omega
                have hb4b : c.sz ≤ m.sz := by omega
                have hb4c : m.rk ≤ c.rk := by omega
                have hb4d : decide (c.rk < m.rk) = false := by simp; omega
                have hb4e : (c.sz == m.sz) = true := by simp; omega
                clear hbt hb3'
                go_quiet (fail)
                go_wp2_with fail
                go_region_with (go_at_call 34; refine (shared_any m c _).mono ?_; rintro e w' ⟨rfl, o3, o4, rfl⟩)
                all_goals
                  go_wp2_with fail
                  go_region
                  go_wp2
                  go_light
                  have hjl : j < (Mg.memK l k).length := by rw [Mg.memK_len l k (by rw [HN.out]; omega), HN.out]; omega
                  have hst := Mg.memK_join (l := l) (k := k) (m := m) (x := ⟨m.ty, m.st, Mg.maxB m.en c.en, m.rk, m.sz, Mg.shared m c⟩) (r := r) (by rw [HN.out]; omega) HRS.out (by rw [← HC.out, Mg.step_cons, give_no hB', if_neg (by omega), join_worse HBT.out])
                  rw [HJ.out] at hst
                  refine ⟨⟨k + 1, j + 1, by omega, by go_num, rfl, hst.2, Row.cast (Near.row (j := j) (L := Mg.memK l k) ?_ hjl ?_) hst.1, ?_⟩, by simp [intOf]; omega⟩
                  · repeat (with_reducible (first | apply Near.alloc | apply Near.drewN | apply Near.drew | (refine Near.set ?_ _ _ (by omega)) | exact Near.of_row HR.out _))
                  · constructor <;> simp [go_sem, Mg.maxB, *]
                  · repeat (with_reducible (first | apply gb_alloc | apply gb_drewN | apply gb_drew | apply gb_set | exact HG.out))
    · have hkn : k = n := by omega
      subst hkn
      have HQ : Hid ((Mg.rsK l k).length = q) := hq
      clear hq
      go_wp2
      go_ret
      have e1 : (Mg.merge l).length = q := by rw [← HQ.out, ← HN.out, Mg.rsK_all]; simp [Mg.merge]
      rw [e1]
      refine ⟨rfl, hr.cast ?_, hg⟩
      rw [← e1, ← Mg.memK_all, HN.out]

end Go.Proofs.Qxb6621684a
