import Derived.Test.Qxb6621684aChainPlain
import Derived.Test.Qxb6621684aSrc
import Derived.Test.Qxb6621684aSmall
import Derived.Deep.RegionHeld3
import Derived.Deep.DeepCutAuto
import Derived.Deep.CutBlock
namespace Go.Proofs.Qxb6621684a
open Go.RowKit

theorem Mg.rsK_nil {l : List Cd} {a : Nat} (h : Mg.rsK l a = []) (ha : a ≤ l.length) : a = 0 := by
  rcases Nat.eq_zero_or_pos a with h0 | h0
  · exact h0
  · have := Mg.merge_pos (l.take a) (by rw [List.length_take]; omega)
    unfold Mg.merge at this
    unfold Mg.rsK at h
    rw [h] at this
    simp at this
theorem bt_1 {y c d D : Cd} (h1 : y.sz = D.sz) (hd : d = D) (h : d.sz < c.sz) : Mg.betterB y c = true := by
  subst hd
  simp [Mg.betterB, h1, h]
theorem bt_2 {y c d D : Cd} (h1 : y.sz = D.sz) (h2 : y.rk = D.rk) (hd : d = D) (e1 : d.sz ≤ c.sz) (e2 : c.sz ≤ d.sz) (h : c.rk < d.rk) : Mg.betterB y c = true := by
  subst hd
  have : c.sz = d.sz := by omega
  simp [Mg.betterB, h1, h2, h, this]
theorem bt_3 {y c d D : Cd} (h1 : y.sz = D.sz) (hd : d = D) (h : c.sz < d.sz) : Mg.betterB y c = false := by
  subst hd
  have a : ¬ d.sz < c.sz := by omega
  have b : ¬ c.sz = d.sz := by omega
  simp [Mg.betterB, h1, a, b]
theorem bt_4 {y c d D : Cd} (h1 : y.sz = D.sz) (h2 : y.rk = D.rk) (hd : d = D) (e2 : c.sz ≤ d.sz) (h : d.rk ≤ c.rk) : Mg.betterB y c = false := by
  subst hd
  have a : ¬ d.sz < c.sz := by omega
  have b : ¬ c.rk < d.rk := by omega
  simp [Mg.betterB, h1, h2, a, b]
theorem keep_alloc {w : World} {a : Addr} {v : Value} (h : w.cell? a = some v) (o : Obj) : (w.alloc o).cell? a = some v := (World.grownBy_alloc w o none).cell h (by simp)
theorem keep_drew {w : World} {a : Addr} {v : Value} (h : w.cell? a = some v) : w.drew.cell? a = some v := h
theorem keep_drewN {w : World} {a : Addr} {v : Value} (h : w.cell? a = some v) (n : Nat) : (w.drewN n).cell? a = some v := h
theorem keep_set {w : World} {b p g : Nat} {v : Value} (h : w.cell? ⟨b, p, none⟩ = some v) (hne : ¬ b = g) (q : Nat) (x : Value) : (w.setCell ⟨g, q, none⟩ x).cell? ⟨b, p, none⟩ = some v :=
  (World.cell?_of_block (a := ⟨b, p, none⟩) (Deep.blk_setCell_other _ _ _ _ hne)).trans h
theorem keep_grown {w w' : World} {b p g : Nat} {v : Value} (hg : w.grownBy w' (some g)) (h : w.cell? ⟨b, p, none⟩ = some v) (hne : ¬ b = g) : w'.cell? ⟨b, p, none⟩ = some v :=
  hg.cell h (fun e => hne (by simpa using e))
theorem chain_info : ∃ i, Try.prog.info? 34 = some i ∧ i.size = 6 := by
  obtain ⟨i, hi, hs⟩ := Option.map_eq_some_iff.1 Try.zero34
  simp only [Prod.mk.injEq] at hs
  exact ⟨i, hi, hs.2.1⟩
/-- 'append(s, c)' WITHIN THE ROOM, as one step of a region that draws. -/
theorem step_append_row {P : Program} {w : World} {ops : Array Oper} {o : Oper} {a : Act} {K : Act → World → Prop} {Q : Exit → Act → World → Prop} {E : Prop}
    (hg : o.guard = none) (s x : Operand) (t : TypeId) (hop : o.op = Op.call { callee := Callee.builtin Builtin.append, args := #[s, x], argTypes := #[t, t] })
    (e : TypeId) (i : TypeInfo) (h1 : P.underlying t = some (.slice e)) (h2 : P.info? e = some i) (h4 : i.size = 6)
    (g q cap h : Nat) (L : List Cd) (c : Cd) (hs : a.eval s = .slice (some ⟨g, 0, none⟩) q cap) (hx : a.eval x = .slice (some ⟨h, 0, none⟩) 1 1)
    (hrow : Row w g e L) (hq : q < L.length) (hcap : cap = L.length) (hnew : w.heap[h]? = some (.cells (cdCells c).toArray e (0, 0)))
    (hK : ∀ w', Row w' g e (L.set q c) → w.grownBy w' (some g) → w'.heap.size = w.heap.size → K (a.put o.dst (.slice (some ⟨g, 0, none⟩) (q + 1) cap)) w') :
    if Region.wanted o (yielded ops a.tmps) = true then Oper.wp P o a w K Q else E := by
  have hw : Region.wanted o (yielded ops a.tmps) = true := by simp [Region.wanted, hg]
  rw [if_pos hw]
  obtain ⟨cur, hb, hn, hc⟩ := hrow
  have hl : (cdCells c).length = 1 * i.size := by rw [h4]; rfl
  have hnews : ∀ j u, (cdCells c)[j]? = some u → w.cell? ((⟨h, 0, none⟩ : Addr).add j) = some u := by
    intro j u hu
    rw [Addr.add_lit, Nat.zero_add]
    unfold World.cell?
    simp only [hnew]
    simpa using hu
  have h1c : ∀ u ∈ cdCells c, u.oneCell' = true := by
    intro u hu
    simp only [cdCells, List.mem_cons, List.not_mem_nil, or_false] at hu
    rcases hu with rfl | rfl | rfl | rfl | rfl | rfl <;> rfl
  have hfit : q * i.size + (cdCells c).length ≤ cur.size := by rw [h4, hn]; show q * 6 + 6 ≤ _; omega
  have hrun := run_append_room (P := P) w t o.type e i h1 h2 g q cap cur hb ⟨h, 0, none⟩ 1 1 (cdCells c) hl hnews h1c (by omega) hfit
  rw [h4] at hrun
  rw [List.append_assoc] at hrun
  have hR := Row.setWhole (w := w) (b := g) (e := e) (L := L) ⟨cur, hb, hn, hc⟩ q hq c cur hb
  rw [List.append_assoc] at hR
  unfold Oper.wp
  simp [execOp, hop, resolve, invoke, builtin, hs, hx, hrun, Result.andThen]
  exact hK _ hR ⟨rfl, rfl, rfl, by simp, fun k _ hk => setRow_other w g k _ (fun e => hk (by simp [e]))⟩ (by simp)
theorem Src.pick {w : World} {b off : Nat} {l : List Cd} (h : Src w (some ⟨b, off, none⟩) l) (i : Nat) (hi : i < l.length) : AtO w b off i (l.getD i noCd) := by
  obtain ⟨b', off', ha, hat⟩ := h i hi
  simp only [Option.some.injEq, Addr.mk.injEq, and_true] at ha
  obtain ⟨rfl, rfl⟩ := ha
  exact hat

set_option maxRecDepth 100000 in
set_option maxHeartbeats 4000000 in
/-- 'zzChainModel' of a slice that is not empty. -/
theorem chain_some (b off n c : Nat) (l : List Cd) (hn : l.length = n) (hbd : n ≤ 1000000000) (hd : Mg.Tame l) (w : World) (hsrc : Src w (some ⟨b, off, none⟩) l) (hblt : b < w.heap.size) :
    Calls Try.prog 21 #[.slice (some ⟨b, off, none⟩) n c] w fun e w' => ∃ g, e = .returned (.slice (some ⟨g, 0, none⟩) (Mg.merge l).length n) ∧ w.heap.size ≤ g ∧ Src w' (some ⟨g, 0, none⟩) (Mg.merge l) ∧ w.Since w.heap.size w' := by
  have HN : Hid (l.length = n) := hn
  have HD : Hid (Mg.Tame l) := hd
  have HS : Hid (Src w (some ⟨b, off, none⟩) l) := hsrc
  clear hn hd hsrc
  have hmk : ∀ w, (Instr.makeSlice 31 (.int .i64 0) (.int .i64 (n : Int))).run Try.prog w = .ok (.slice (some ⟨w.heap.size, 0, none⟩) 0 n) (w.alloc (.cells (six0 n) 34)) := run_make6 31 34 Try.underlying31 Try.zero34 0 n (Nat.zero_le _) hbd
  obtain ⟨i0, hi, hz1⟩ := chain_info
  go_enter Try.func21, Try.ntmps21
  go_wp2
  go_loopw [4, 5, 6] (fun v r i wr => ∃ (a q : Nat) (re : Int), a ≤ n ∧ i = .int .i64 a ∧ r = .int .i64 re ∧ v = .slice (some ⟨w.heap.size, 0, none⟩) q n ∧ (Mg.rsK l a).length = q ∧ (∀ m r, Mg.rsK l a = m :: r → m.en = re ∧ (a < n → re ≤ (l.getD a noCd).st)) ∧ Row wr w.heap.size 34 (Mg.outL l a) ∧ (w.alloc (.cells (six0 n) 34)).grownBy wr (some w.heap.size)) (fun _ _ i _ => n - (intOf i).toNat)
  case atStart => exact ⟨0, 0, 0, Nat.zero_le _, rfl, rfl, rfl, by rw [Mg.rsK_zero]; rfl, fun m r h => by rw [Mg.rsK_zero] at h; simp at h, (row_made w 34 n).cast (by rw [Mg.outL_zero, HN.out]), World.grownBy.refl _ _⟩
  case round =>
    obtain ⟨a, q, re, ha, rfl, rfl, rfl, hq, hre, hr, hg⟩ := hrel
    have hsi : w.Since w.heap.size wr := ((World.Since.refl _ w).alloc (Nat.le_refl _) (.cells (six0 n) 34)).grown hg (by simp) (fun k hk => by simp at hk; omega)
    have hsw : Src wr (some ⟨b, off, none⟩) l := HS.out.since hsi
    by_cases hlt : a < n
    · have HR : Hid (Row wr w.heap.size 34 (Mg.outL l a)) := hr
      have HG : Hid ((w.alloc (.cells (six0 n) 34)).grownBy wr (some w.heap.size)) := hg
      have HSW : Hid (Src wr (some ⟨b, off, none⟩) l) := hsw
      have HQ : Hid ((Mg.rsK l a).length = q) := hq
      obtain ⟨ca, hca⟩ : ∃ ca, ca = l.getD a noCd := ⟨_, rfl⟩
      have hta := HD.out a (by rw [HN.out]; exact hlt)
      rw [← hca] at hta
      have HCA : Hid (ca = l.getD a noCd) := hca
      have H0 : Hid (Mg.rsK l (a + 1) = ca :: Mg.rsK l a) := by
        show _ = _
        rw [hca]
        exact Mg.chain_new HD.out (by rw [HN.out]; exact hlt) (fun m r e => by obtain ⟨h1, h2⟩ := hre m r e; rw [h1]; exact h2 hlt)
      have ata := hsw.pick a (by rw [HN.out]; exact hlt)
      rw [← hca] at ata
      have HATA : Hid (AtO wr b off a ca) := ata
      obtain ⟨a0, a1, a2, a3, a4, a5⟩ := ata
      have hrx : a = 0 ∨ re ≤ ca.st := by
        cases e : Mg.rsK l a with
        | nil =>
          exact .inl (Mg.rsK_nil e (by rw [HN.out]; omega))
        | cons m r => right; obtain ⟨h1, h2⟩ := hre m r e; rw [hca]; exact h2 hlt
      clear hr hg hsi hsw hq hre hca
      clear a3 a4
      obtain ⟨hta1, hta2⟩ := hta
      have hreach : a = 0 ∨ (a ≠ 0 ∧ re < ca.en) ∨ (a ≠ 0 ∧ re = ca.en) := by omega
      go_upto_region 6 with fail
      go_cut [29] (fun t wc => ∃ tb : Bool, t = .bool tb ∧ (tb = false → re = ca.en) ∧ wc = wr)
      case first =>
        rcases hreach with h0 | ⟨h0, h1⟩ | ⟨h0, h1⟩
        · subst h0
          go_wp2
          go_meet
          case rel => exact ⟨true, rfl, fun h => by simp at h, rfl⟩
        · have z0 : ((a : Int) == 0) = false := by simp; omega
          go_wp2
          go_meet
          case rel => exact ⟨true, rfl, fun h => by simp at h, rfl⟩
        · have z0 : ((a : Int) == 0) = false := by simp; omega
          have z1 : decide (re < ca.en) = false := by simp; omega
          have HE : Hid (re = ca.en) := h1
          clear h1
          go_wp2
          go_meet
          case rel => exact ⟨false, rfl, fun _ => HE.out, rfl⟩
      case rest =>
        obtain ⟨tb, rfl, htb, rfl⟩ := hcut
        have HTB : Hid (tb = false → re = ca.en) := htb
        clear htb hreach hrx
        go_upto_if 29 with fail
        go_cut [5] (fun r wd => r = .int .i64 ca.en ∧ wd = wc)
        case first =>
          cases tb with
          | true =>
            go_wp2
            go_meet
            case rel => exact ⟨rfl, rfl⟩
          | false =>
            have h1 := HTB.out rfl
            subst h1
            go_wp2
            go_meet
            case rel => exact ⟨rfl, rfl⟩
        case rest =>
          obtain ⟨rfl, rfl⟩ := hcut
          clear HTB
          go_upto_block 2 with fail
          go_cut [5, 7] (fun r i we => ∃ (bb : Nat) (x : Cd), a < bb ∧ bb ≤ n ∧ i = .int .i64 bb ∧ r = .int .i64 x.en ∧ Mg.rsK l bb = x :: Mg.rsK l a ∧ (∀ j, a < j → j < bb → ∃ y, Mg.rsK l j = y :: Mg.rsK l a ∧ (l.getD j noCd).st < y.en) ∧ (bb < n → x.en ≤ (l.getD bb noCd).st) ∧ we = wc)
          case first =>
            go_wp2
            go_loop [5, 7] (fun r i => ∃ (bb : Nat) (x : Cd), a < bb ∧ bb ≤ n ∧ i = .int .i64 bb ∧ r = .int .i64 x.en ∧ Mg.rsK l bb = x :: Mg.rsK l a ∧ ∀ j, a < j → j < bb → ∃ y, Mg.rsK l j = y :: Mg.rsK l a ∧ (l.getD j noCd).st < y.en) (fun _ i => n - (intOf i).toNat)
            case atStart => exact ⟨a + 1, ca, by omega, by omega, by go_num, rfl, H0.out, fun j h1 h2 => by omega⟩
            case round =>
              obtain ⟨bb, x, hb1, hb2, rfl, rfl, hx, hall⟩ := hrel
              have HX : Hid (Mg.rsK l bb = x :: Mg.rsK l a) := hx
              have HALL : Hid (∀ j, a < j → j < bb → ∃ y, Mg.rsK l j = y :: Mg.rsK l a ∧ (l.getD j noCd).st < y.en) := hall
              clear hx hall
              by_cases hbn : bb < n ∧ (l.getD bb noCd).st < x.en
              · obtain ⟨hbn, hst⟩ := hbn
                have hon := Mg.chain_on HD.out (by rw [HN.out]; exact hbn) HX.out hst
                have hfa := (Mg.chain_on_facts HD.out (by rw [HN.out]; exact hbn) HX.out).2.1
                have HALL2 : Hid (∀ j, a < j → j < bb + 1 → ∃ y, Mg.rsK l j = y :: Mg.rsK l a ∧ (l.getD j noCd).st < y.en) := fun j h1 h2 => by
                  by_cases hj : j = bb
                  · subst hj; exact ⟨x, HX.out, hst⟩
                  · exact HALL.out j h1 (by omega)
                have atb := HSW.out.pick bb (by rw [HN.out]; exact hbn)
                obtain ⟨cb, hcb⟩ : ∃ cb, cb = l.getD bb noCd := ⟨_, rfl⟩
                rw [← hcb] at atb hst hon hfa
                obtain ⟨e0, e1, e2, e3, e4, e5⟩ := atb
                have HON : Hid (Mg.rsK l (bb + 1) = Mg.join x cb :: Mg.rsK l a) := hon
                have HFA : Hid ((Mg.join x cb).en = Mg.maxB x.en cb.en) := hfa
                clear hcb hon hfa e0 e3 e4 e5
                by_cases hmx : x.en < cb.en
                · go_wp2
                  exact ⟨⟨bb + 1, Mg.join x cb, by omega, by omega, by go_num, by rw [HFA.out, Mg.maxB, if_pos hmx], HON.out, HALL2.out⟩, by simp [intOf]; omega⟩
                · have hd1 : decide (x.en < cb.en) = false := by simpa using hmx
                  go_wp2
                  exact ⟨⟨bb + 1, Mg.join x cb, by omega, by omega, by go_num, by rw [HFA.out, Mg.maxB, if_neg hmx], HON.out, HALL2.out⟩, by simp [intOf]; omega⟩
              · by_cases hbn2 : bb < n
                · have hst : x.en ≤ (l.getD bb noCd).st := by omega
                  have atb := HSW.out.pick bb (by rw [HN.out]; exact hbn2)
                  obtain ⟨cb, hcb⟩ : ∃ cb, cb = l.getD bb noCd := ⟨_, rfl⟩
                  have HST : Hid (x.en ≤ (l.getD bb noCd).st) := hst
                  rw [← hcb] at atb hst
                  obtain ⟨e0, e1, e2, e3, e4, e5⟩ := atb
                  have hd1 : decide (cb.st < x.en) = false := by simpa using hst
                  clear hcb hbn e0 e2 e3 e4 e5
                  go_wp2
                  go_meet
                  case rel => exact ⟨bb, x, hb1, hb2, rfl, rfl, HX.out, HALL.out, fun _ => HST.out, rfl⟩
                · have hd1 : decide ((bb : Int) < (n : Int)) = false := by simp; omega
                  clear hbn
                  go_wp2
                  go_meet
                  case rel => exact ⟨bb, x, hb1, hb2, rfl, rfl, HX.out, HALL.out, fun h => absurd h hbn2, rfl⟩
          case rest =>
            obtain ⟨bb, x, hb1, hb2, rfl, rfl, hx, hall, hend, rfl⟩ := hcut
            have HX : Hid (Mg.rsK l bb = x :: Mg.rsK l a) := hx
            have HALL : Hid (∀ j, a < j → j < bb → ∃ y, Mg.rsK l j = y :: Mg.rsK l a ∧ (l.getD j noCd).st < y.en) := hall
            have HEND : Hid (bb < n → x.en ≤ (l.getD bb noCd).st) := hend
            clear hx hall hend
            go_wp2
            go_loopw [8, 9, 10] (fun en be i wf => ∃ (j best : Nat) (y : Cd) (m : Nat), a < j ∧ j ≤ bb ∧ best < bb ∧ i = .int .i64 j ∧ en = .int .i64 y.en ∧ be = .int .i64 best ∧ Mg.rsK l j = y :: Mg.rsK l a ∧ y.ty = (l.getD best noCd).ty ∧ y.rk = (l.getD best noCd).rk ∧ y.sz = (l.getD best noCd).sz ∧ y.st = ca.st ∧ y.sh = (if j = a + 1 then ca.sh else 0) ∧ wf = wc.drewN m) (fun _ _ i _ => bb - (intOf i).toNat)
            case atStart => exact ⟨a + 1, a, ca, 0, by omega, by omega, by omega, by go_num, rfl, rfl, H0.out, by rw [HCA.out], by rw [HCA.out], by rw [HCA.out], rfl, by simp, rfl⟩
            case round =>
              obtain ⟨j, best, y, m, hj1, hj2, hbe, rfl, rfl, rfl, hy, y1, y2, y3, y4, y5, rfl⟩ := hrel
              obtain ⟨d, hd⟩ : ∃ d, d = l.getD best noCd := ⟨_, rfl⟩
              rw [← hd] at y1 y2 y3
              have HDB : Hid (d = l.getD best noCd) := hd
              have atd := HSW.out.pick best (by rw [HN.out]; omega)
              rw [← hd] at atd
              have HY : Hid (y.ty = (l.getD best noCd).ty ∧ y.rk = (l.getD best noCd).rk ∧ y.sz = (l.getD best noCd).sz ∧ y.st = ca.st ∧ y.sh = (if j = a + 1 then ca.sh else 0)) := by
                rw [← hd]; exact ⟨y1, y2, y3, y4, y5⟩
              have HYR : Hid (Mg.rsK l j = y :: Mg.rsK l a) := hy
              clear hd y1 y2 y3 y4 y5 hy
              by_cases hjb : j < bb
              · obtain ⟨y', hy', hst⟩ := HALL.out j hj1 hjb
                have hyy : y' = y := by
                  have := HYR.out
                  rw [hy'] at this
                  exact (List.cons.inj this).1
                subst hyy
                have hon := Mg.chain_on HD.out (by rw [HN.out]; omega) HYR.out hst
                have hfa := Mg.chain_on_facts HD.out (by rw [HN.out]; omega) HYR.out
                have atj := HSW.out.pick j (by rw [HN.out]; omega)
                obtain ⟨cj, hcj⟩ : ∃ cj, cj = l.getD j noCd := ⟨_, rfl⟩
                rw [← hcj] at atj hon hfa
                have HCJ : Hid (cj = l.getD j noCd) := hcj
                have HON : Hid (Mg.rsK l (j + 1) = Mg.join y' cj :: Mg.rsK l a) := hon
                have HFA : Hid ((Mg.join y' cj).sh = 0 ∧ (Mg.join y' cj).en = Mg.maxB y'.en cj.en ∧ (Mg.join y' cj).st = y'.st) := hfa
                obtain ⟨e0, e1, e2, e3, e4, e5⟩ := atj
                obtain ⟨d0, d1, d2, d3, d4, d5⟩ := atd
                clear hy' hst hcj hon hfa e0 e1 e5 d0 d1 d2 d5
                by_cases hmx : y'.en < cj.en
                · by_cases hb1 : d.sz < cj.sz
                  · have HBT : Hid (Mg.betterB y' cj = true) := bt_1 HY.out.2.2.1 HDB.out hb1
                    go_wp2_with fail
                    go_quiet (fail)
                    go_wp2
                    obtain ⟨f1, f2, f3⟩ := Mg.join_yes (m := y') (c := cj) HBT.out
                    exact ⟨⟨j + 1, j, Mg.join y' cj, _, by omega, by omega, by omega, by go_num, by rw [HFA.out.2.1, Mg.maxB, if_pos hmx], rfl, HON.out, by rw [f1, HCJ.out], by rw [f2, HCJ.out], by rw [f3, HCJ.out], by rw [HFA.out.2.2, HY.out.2.2.2.1], by rw [HFA.out.1, if_neg (by omega)], rfl⟩, by simp [intOf]; omega⟩
                  · by_cases hb2 : cj.sz < d.sz
                    · have HBT : Hid (Mg.betterB y' cj = false) := bt_3 HY.out.2.2.1 HDB.out hb2
                      have z1 : decide (d.sz < cj.sz) = false := by simp; omega
                      have z2 : (cj.sz == d.sz) = false := by simp; omega
                      go_wp2_with fail
                      go_quiet (fail)
                      go_wp2
                      obtain ⟨f1, f2, f3⟩ := Mg.join_no (m := y') (c := cj) HBT.out
                      exact ⟨⟨j + 1, best, Mg.join y' cj, _, by omega, by omega, by omega, by go_num, by rw [HFA.out.2.1, Mg.maxB, if_pos hmx], rfl, HON.out, by rw [f1]; exact HY.out.1, by rw [f2]; exact HY.out.2.1, by rw [f3]; exact HY.out.2.2.1, by rw [HFA.out.2.2, HY.out.2.2.2.1], by rw [HFA.out.1, if_neg (by omega)], rfl⟩, by simp [intOf]; omega⟩
                    · have e1 : d.sz ≤ cj.sz := by omega
                      have e2 : cj.sz ≤ d.sz := by omega
                      have z1 : decide (d.sz < cj.sz) = false := by simp; omega
                      have z2 : (cj.sz == d.sz) = true := by simp; omega
                      clear hb1 hb2
                      by_cases hb3 : cj.rk < d.rk
                      · have HBT : Hid (Mg.betterB y' cj = true) := bt_2 HY.out.2.2.1 HY.out.2.1 HDB.out e1 e2 hb3
                        go_wp2_with fail
                        go_quiet (fail)
                        go_wp2
                        obtain ⟨f1, f2, f3⟩ := Mg.join_yes (m := y') (c := cj) HBT.out
                        exact ⟨⟨j + 1, j, Mg.join y' cj, _, by omega, by omega, by omega, by go_num, by rw [HFA.out.2.1, Mg.maxB, if_pos hmx], rfl, HON.out, by rw [f1, HCJ.out], by rw [f2, HCJ.out], by rw [f3, HCJ.out], by rw [HFA.out.2.2, HY.out.2.2.2.1], by rw [HFA.out.1, if_neg (by omega)], rfl⟩, by simp [intOf]; omega⟩
                      · have HBT : Hid (Mg.betterB y' cj = false) := bt_4 HY.out.2.2.1 HY.out.2.1 HDB.out e2 (by omega)
                        have z3 : decide (cj.rk < d.rk) = false := by simpa using hb3
                        go_wp2_with fail
                        go_quiet (fail)
                        go_wp2
                        obtain ⟨f1, f2, f3⟩ := Mg.join_no (m := y') (c := cj) HBT.out
                        exact ⟨⟨j + 1, best, Mg.join y' cj, _, by omega, by omega, by omega, by go_num, by rw [HFA.out.2.1, Mg.maxB, if_pos hmx], rfl, HON.out, by rw [f1]; exact HY.out.1, by rw [f2]; exact HY.out.2.1, by rw [f3]; exact HY.out.2.2.1, by rw [HFA.out.2.2, HY.out.2.2.2.1], by rw [HFA.out.1, if_neg (by omega)], rfl⟩, by simp [intOf]; omega⟩
                · have hmx0 : decide (y'.en < cj.en) = false := by simpa using hmx
                  by_cases hb1 : d.sz < cj.sz
                  · have HBT : Hid (Mg.betterB y' cj = true) := bt_1 HY.out.2.2.1 HDB.out hb1
                    go_wp2_with fail
                    go_quiet (fail)
                    go_wp2
                    obtain ⟨f1, f2, f3⟩ := Mg.join_yes (m := y') (c := cj) HBT.out
                    exact ⟨⟨j + 1, j, Mg.join y' cj, _, by omega, by omega, by omega, by go_num, by rw [HFA.out.2.1, Mg.maxB, if_neg (by omega)], rfl, HON.out, by rw [f1, HCJ.out], by rw [f2, HCJ.out], by rw [f3, HCJ.out], by rw [HFA.out.2.2, HY.out.2.2.2.1], by rw [HFA.out.1, if_neg (by omega)], rfl⟩, by simp [intOf]; omega⟩
                  · by_cases hb2 : cj.sz < d.sz
                    · have HBT : Hid (Mg.betterB y' cj = false) := bt_3 HY.out.2.2.1 HDB.out hb2
                      have z1 : decide (d.sz < cj.sz) = false := by simp; omega
                      have z2 : (cj.sz == d.sz) = false := by simp; omega
                      go_wp2_with fail
                      go_quiet (fail)
                      go_wp2
                      obtain ⟨f1, f2, f3⟩ := Mg.join_no (m := y') (c := cj) HBT.out
                      exact ⟨⟨j + 1, best, Mg.join y' cj, _, by omega, by omega, by omega, by go_num, by rw [HFA.out.2.1, Mg.maxB, if_neg (by omega)], rfl, HON.out, by rw [f1]; exact HY.out.1, by rw [f2]; exact HY.out.2.1, by rw [f3]; exact HY.out.2.2.1, by rw [HFA.out.2.2, HY.out.2.2.2.1], by rw [HFA.out.1, if_neg (by omega)], rfl⟩, by simp [intOf]; omega⟩
                    · have e1 : d.sz ≤ cj.sz := by omega
                      have e2 : cj.sz ≤ d.sz := by omega
                      have z1 : decide (d.sz < cj.sz) = false := by simp; omega
                      have z2 : (cj.sz == d.sz) = true := by simp; omega
                      clear hb1 hb2
                      by_cases hb3 : cj.rk < d.rk
                      · have HBT : Hid (Mg.betterB y' cj = true) := bt_2 HY.out.2.2.1 HY.out.2.1 HDB.out e1 e2 hb3
                        go_wp2_with fail
                        go_quiet (fail)
                        go_wp2
                        obtain ⟨f1, f2, f3⟩ := Mg.join_yes (m := y') (c := cj) HBT.out
                        exact ⟨⟨j + 1, j, Mg.join y' cj, _, by omega, by omega, by omega, by go_num, by rw [HFA.out.2.1, Mg.maxB, if_neg (by omega)], rfl, HON.out, by rw [f1, HCJ.out], by rw [f2, HCJ.out], by rw [f3, HCJ.out], by rw [HFA.out.2.2, HY.out.2.2.2.1], by rw [HFA.out.1, if_neg (by omega)], rfl⟩, by simp [intOf]; omega⟩
                      · have HBT : Hid (Mg.betterB y' cj = false) := bt_4 HY.out.2.2.1 HY.out.2.1 HDB.out e2 (by omega)
                        have z3 : decide (cj.rk < d.rk) = false := by simpa using hb3
                        go_wp2_with fail
                        go_quiet (fail)
                        go_wp2
                        obtain ⟨f1, f2, f3⟩ := Mg.join_no (m := y') (c := cj) HBT.out
                        exact ⟨⟨j + 1, best, Mg.join y' cj, _, by omega, by omega, by omega, by go_num, by rw [HFA.out.2.1, Mg.maxB, if_neg (by omega)], rfl, HON.out, by rw [f1]; exact HY.out.1, by rw [f2]; exact HY.out.2.1, by rw [f3]; exact HY.out.2.2.1, by rw [HFA.out.2.2, HY.out.2.2.2.1], by rw [HFA.out.1, if_neg (by omega)], rfl⟩, by simp [intOf]; omega⟩
              · have hjeq : j = bb := by omega
                subst hjeq
                have hq1 : q + 1 ≤ n := by
                  have h1 := Mg.rsK_le l j
                  rw [HYR.out, List.length_cons, HQ.out] at h1
                  omega
                have hol := Mg.outL_len l a (by rw [HN.out]; omega)
                rw [HN.out] at hol
                have atq := HR.out.at q (by rw [hol]; omega)
                obtain ⟨q0, q1, q2, q3, q4, q5⟩ := atq
                have fr := fun p => HR.out.frozen p
                have hgl := HR.out.lt
                obtain ⟨d0, d1, d2, d3, d4, d5⟩ := atd
                have nb : ¬ b = w.heap.size := by omega
                have nb2 : b < wc.heap.size := by omega
                have nb3 : ¬ b = wc.heap.size := by omega
                have ib : (best : Int) < (n : Int) := by omega
                have ia : (a : Int) < (n : Int) := by omega
                have HQL : Hid (q < (Mg.outL l a).length) := by show q < _; rw [hol]; omega
                have HCAP : Hid (n = (Mg.outL l a).length) := hol.symm
                clear d1 d2 d5 hol q0 q1 q2 q3 q4 q5 fr
                by_cases hone : j = a + 1
                · have z : ((j : Int) == (a : Int) + 1) = true := by simp; omega
                  have HSH : Hid (y.sh = ca.sh) := by show y.sh = ca.sh; rw [HY.out.2.2.2.2, if_pos hone]
                  have HONE : Hid (j = a + 1) := hone
                  clear hone
                  go_wp2_with fail
                  go_region_held3 (fun w' => w'.cell? ⟨b, off + best * 6, none⟩ = some (.string d.ty) ∧ w'.cell? ⟨b, off + a * 6 + 1, none⟩ = some (.int .i64 ca.st) ∧ w'.cell? ⟨b, off + best * 6 + 3, none⟩ = some (.int .i64 d.rk) ∧ w'.cell? ⟨b, off + best * 6 + 4, none⟩ = some (.int .i64 d.sz))
                    ((refine ⟨?_, ?_, ?_, ?_⟩ <;> repeat (with_reducible (first | exact d0 | exact a1 | exact d3 | exact d4 | apply keep_drew | apply keep_drewN | apply keep_alloc | (refine keep_set ?_ nb _ _) | (refine keep_grown hG2 ?_ nb)))))
                    ((refine step_append_row (by rfl) (.tmp 135) (.tmp 159) 31 (by rfl) 34 i0 Try.underlying31 hi hz1 w.heap.size q n wc.heap.size (Mg.outL l a) ⟨d.ty, ca.st, y.en, d.rk, d.sz, ca.sh⟩ (by rfl) (by rfl) (Row.alloc (Row.drewN HR.out _) _) HQL.out HCAP.out (heap_alloc_new _ _) ?_; intro w2 hR2 hG2 hS2))
                  go_wp2
                  go_light
                  have hxy : y = x := by
                    have := HYR.out
                    rw [HX.out] at this
                    exact (List.cons.inj this).1.symm
                  have hel : (⟨d.ty, ca.st, y.en, d.rk, d.sz, ca.sh⟩ : Cd) = y := by
                    obtain ⟨g1, g2, g3, g4, _⟩ := HY.out
                    rw [← HDB.out] at g1 g2 g3
                    rw [← g1, ← g2, ← g3, ← g4, ← HSH.out]
                  refine ⟨⟨j, q + 1, x.en, hb2, rfl, rfl, rfl, by rw [HYR.out, List.length_cons, HQ.out], fun m r hm => ?_, hR2.cast ?_, gb_trans ?_ hG2⟩, by simp [intOf]; omega⟩
                  · rw [HX.out] at hm
                    have := (List.cons.inj hm).1
                    subst this
                    exact ⟨rfl, HEND.out⟩
                  · rw [hel, ← HQ.out]
                    exact Mg.outL_set (by rw [HN.out]; exact hb2) HYR.out
                  · repeat (with_reducible (first | apply gb_alloc | apply gb_drewN | apply gb_drew | exact HG.out))
                · have z : ((j : Int) == (a : Int) + 1) = false := by simp; omega
                  have HSH : Hid (y.sh = 0) := by show y.sh = 0; rw [HY.out.2.2.2.2, if_neg hone]
                  have HONE : Hid (¬ j = a + 1) := hone
                  clear hone
                  go_wp2_with fail
                  go_region_held3 (fun w' => w'.cell? ⟨b, off + best * 6, none⟩ = some (.string d.ty) ∧ w'.cell? ⟨b, off + a * 6 + 1, none⟩ = some (.int .i64 ca.st) ∧ w'.cell? ⟨b, off + best * 6 + 3, none⟩ = some (.int .i64 d.rk) ∧ w'.cell? ⟨b, off + best * 6 + 4, none⟩ = some (.int .i64 d.sz))
                    ((refine ⟨?_, ?_, ?_, ?_⟩ <;> repeat (with_reducible (first | exact d0 | exact a1 | exact d3 | exact d4 | apply keep_drew | apply keep_drewN | apply keep_alloc | (refine keep_set ?_ nb _ _) | (refine keep_grown hG2 ?_ nb)))))
                    ((refine step_append_row (by rfl) (.tmp 135) (.tmp 159) 31 (by rfl) 34 i0 Try.underlying31 hi hz1 w.heap.size q n wc.heap.size (Mg.outL l a) ⟨d.ty, ca.st, y.en, d.rk, d.sz, 0⟩ (by rfl) (by rfl) (Row.alloc (Row.drewN HR.out _) _) HQL.out HCAP.out (heap_alloc_new _ _) ?_; intro w2 hR2 hG2 hS2))
                  go_wp2
                  go_light
                  have hxy : y = x := by
                    have := HYR.out
                    rw [HX.out] at this
                    exact (List.cons.inj this).1.symm
                  have hel : (⟨d.ty, ca.st, y.en, d.rk, d.sz, 0⟩ : Cd) = y := by
                    obtain ⟨g1, g2, g3, g4, _⟩ := HY.out
                    rw [← HDB.out] at g1 g2 g3
                    rw [← g1, ← g2, ← g3, ← g4, ← HSH.out]
                  refine ⟨⟨j, q + 1, x.en, hb2, rfl, rfl, rfl, by rw [HYR.out, List.length_cons, HQ.out], fun m r hm => ?_, hR2.cast ?_, gb_trans ?_ hG2⟩, by simp [intOf]; omega⟩
                  · rw [HX.out] at hm
                    have := (List.cons.inj hm).1
                    subst this
                    exact ⟨rfl, HEND.out⟩
                  · rw [hel, ← HQ.out]
                    exact Mg.outL_set (by rw [HN.out]; exact hb2) HYR.out
                  · repeat (with_reducible (first | apply gb_alloc | apply gb_drewN | apply gb_drew | exact HG.out))
    · have hae : a = n := by omega
      subst hae
      have hml : (Mg.merge l).length = q := by
        rw [← hq, ← HN.out, Mg.rsK_all]; simp [Mg.merge]
      have hsr := hr.src.take (Mg.merge l).length
      have hoa := Mg.outL_all l
      rw [HN.out] at hoa
      rw [hoa, List.take_left] at hsr
      have HSR : Hid (Src wr (some ⟨w.heap.size, 0, none⟩) (Mg.merge l)) := hsr
      have HSI : Hid (w.Since w.heap.size wr) := hsi
      have HML : Hid ((Mg.merge l).length = q) := hml
      clear hr hg hsi hsw hq hre hml hsr hoa
      go_wp2
      go_ret
      rw [HML.out]
      exact ⟨w.heap.size, rfl, Nat.le_refl _, HSR.out, HSI.out⟩

end Go.Proofs.Qxb6621684a
