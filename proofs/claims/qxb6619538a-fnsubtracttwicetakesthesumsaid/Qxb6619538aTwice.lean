/-
  'FnSubtractTwiceTakesTheSum': THE WALK.
-/
import Derived.Test.Qxb6619538aArr
namespace Go.Proofs.Qxb6619538a
open Go.RowKit
set_option linter.unusedVariables false

theorem Arr.setOther {w : World} {b q p : Nat} {e : TypeId} {f : Nat → Int} (h : Arr w b e f) (v : Value) (hne : b ≠ q) : Arr (w.setCell ⟨q, p, none⟩ v) b e f := World.rowIs.setOther h (a := ⟨q, p, none⟩) hne v
theorem below_drew {B : Nat} {w w' : World} (h : Below B w w') : Below B w w'.drew := ⟨h.os, h.tape, h.output, h.size, h.block⟩
theorem below_set {B : Nat} {w w' : World} (h : Below B w w') (q p : Nat) (v : Value) (hB : B ≤ w.heap.size) (hq : B ≤ q) : Below B w (w'.setCell ⟨q, p, none⟩ v) :=
  h.grown (row := some q) ⟨rfl, rfl, rfl, by simp, fun i _ hne => Deep.blk_setCell_other _ _ _ _ (fun e => hne (by simp only [Option.some.injEq]; exact e))⟩ (Nat.le_trans hB h.size) (fun k hk => by simp at hk; omega)

set_option maxRecDepth 100000 in
set_option maxHeartbeats 1000000 in
theorem twice_walk (c d e : Nat → Int) (hs : ∀ p, p < 7 → wrap64 (c p - wrap64 (wrap64 (c p - d p) - e p)) = wrap64 (d p + e p)) (w : World) :
    Calls Try.prog 4 #[av c, av d, av e] w fun x w' => x = .returned (.bool true) ∧ Below w.heap.size w w' := by
  have A : Hid (Arr ((((w.alloc (ac c)).alloc (ac d)).alloc (ac e)).alloc (ac fun _ => 0)) w.heap.size 22 c ∧ Arr ((((w.alloc (ac c)).alloc (ac d)).alloc (ac e)).alloc (ac fun _ => 0)) (w.heap.size + 1) 22 d ∧ Arr ((((w.alloc (ac c)).alloc (ac d)).alloc (ac e)).alloc (ac fun _ => 0)) (w.heap.size + 1 + 1) 22 e ∧ Arr ((((w.alloc (ac c)).alloc (ac d)).alloc (ac e)).alloc (ac fun _ => 0)) (w.heap.size + 1 + 1 + 1) 22 (fun _ => 0) ∧ Below w.heap.size w ((((w.alloc (ac c)).alloc (ac d)).alloc (ac e)).alloc (ac fun _ => 0))) := four w c d e (fun _ => 0)
  have HS : Hid (∀ p, p < 7 → wrap64 (c p - wrap64 (wrap64 (c p - d p) - e p)) = wrap64 (d p + e p)) := hs
  unfold av
  unfold ac at A
  clear hs
  go_enter Try.func4, Try.ntmps4
  go_wp2
  go_loopw [8] (fun i wr => ∃ k : Nat, k ≤ 7 ∧ i = .int .i64 k ∧ Arr wr w.heap.size 22 c ∧ Arr wr (w.heap.size + 1) 22 d ∧ Arr wr (w.heap.size + 1 + 1) 22 e ∧ Arr wr (w.heap.size + 1 + 1 + 1) 22 (fun p => if p < k then wrap64 (d p + e p) else 0) ∧ Below w.heap.size w wr) (fun i _ => 7 - (intOf i).toNat)
  case atStart =>
    obtain ⟨A0, A1, A2, A3, B0⟩ := A.out
    exact ⟨0, Nat.zero_le _, rfl, A0, A1, A2, A3.cast (fun p _ => by simp), B0⟩
  case round =>
    clear A
    obtain ⟨k, hk, rfl, A0, A1, A2, A3, B0⟩ := hrel
    by_cases hlt : k < 7
    · have c1 : wr.cell? ⟨w.heap.size + 1, k, none⟩ = some (.int .i64 (d k)) := A1.cell k hlt
      have c2 : wr.cell? ⟨w.heap.size + 1 + 1, k, none⟩ = some (.int .i64 (e k)) := A2.cell k hlt
      have c3 : wr.cell? ⟨w.heap.size + 1 + 1 + 1, k, none⟩ = some (.int .i64 0) := by simpa using A3.cell k hlt
      have fr : wr.frozen? ⟨w.heap.size + 1 + 1 + 1, k, none⟩ = false := A3.frozen k
      have HA0 : Hid (Arr wr w.heap.size 22 c) := A0
      have HA1 : Hid (Arr wr (w.heap.size + 1) 22 d) := A1
      have HA2 : Hid (Arr wr (w.heap.size + 1 + 1) 22 e) := A2
      have HA3 : Hid (Arr wr (w.heap.size + 1 + 1 + 1) 22 (fun p => if p < k then wrap64 (d p + e p) else 0)) := A3
      have HB0 : Hid (Below w.heap.size w wr) := B0
      clear A0 A1 A2 A3 B0
      go_wp2_with fail
      go_region
      go_wp2
      refine ⟨⟨k + 1, by omega, by go_num, ?_, ?_, ?_, ?_, ?_⟩, by simp [intOf]; omega⟩
      · exact (HA0.out.setOther _ (by omega)).drew
      · exact (HA1.out.setOther _ (by omega)).drew
      · exact (HA2.out.setOther _ (by omega)).drew
      · refine Arr.drew (Arr.set HA3.out k _ fun q hq => ?_)
        by_cases e1 : q = k
        · subst e1; simp
        · by_cases e2 : q < k
          · simp [e1, e2, show q < k + 1 by omega]
          · simp [e1, e2, show ¬ q < k + 1 by omega]
      · exact below_drew (below_set HB0.out _ _ _ (Nat.le_refl _) (by omega))
    · have e7 : k = 7 := by omega
      subst e7
      replace A3 := A3.cast (g := fun p => wrap64 (d p + e p)) (fun p hp => by simp [hp])
      obtain ⟨c0, c1, c2, c3, c4, c5, c6⟩ := A0.seven
      have L3 := A3.lt
      have D0 := A0.alloc (ac c)
      have D1 := A1.alloc (ac c)
      have D2 := A2.alloc (ac c)
      have D3 := A3.alloc (ac c)
      have DR := Arr.new wr c
      have BR := B0.alloc B0.size (ac c)
      unfold ac at D0 D1 D2 D3 DR BR
      have HD : Hid (_ ∧ _ ∧ _ ∧ _ ∧ _ ∧ _) := ⟨D0, D1, D2, D3, DR, BR⟩
      clear A0 A1 A2 A3 B0 D0 D1 D2 D3 DR BR
      go_wp2_with fail
      obtain ⟨D0, D1, D2, D3, DR, BR⟩ := HD.out
      clear HD c0 c1 c2 c3 c4 c5 c6
      refine (zzsub_any _ _ 22 c d _ DR (fun p hp => D1.cell p hp)).mono ?_
      rintro x w1 ⟨rfl, F, hg⟩
      have F0 := D0.grown hg (by simp <;> omega)
      have F2 := D2.grown hg (by simp <;> omega)
      have F3 := D3.grown hg (by simp <;> omega)
      have BF := BR.grown hg BR.size (fun k hk => by simp at hk; omega)
      have HD : Hid (_ ∧ _ ∧ _ ∧ _ ∧ _) := ⟨F0, F2, F3, F, BF⟩
      clear hg D0 D1 D2 D3 DR BR F0 F2 F3 F BF
      go_wp2_with fail
      obtain ⟨F0, F2, F3, F, BF⟩ := HD.out
      clear HD
      refine (zzsub_any _ _ 22 _ e _ F (fun p hp => F2.cell p hp)).mono ?_
      rintro x w2 ⟨rfl, G, hg⟩
      have G0 := F0.grown hg (by simp <;> omega)
      have G3 := F3.grown hg (by simp <;> omega)
      have BG := BF.grown hg BF.size (fun k hk => by simp at hk; omega)
      clear hg F0 F2 F3 F BF
      obtain ⟨c0, c1, c2, c3, c4, c5, c6⟩ := G0.seven
      have K3 := G3.alloc (ac c)
      have KR := G.alloc (ac c)
      have KS := Arr.new w2 c
      have BK := BG.alloc BG.size (ac c)
      have L4 := G3.lt
      have L5 := G.lt
      unfold ac at K3 KR KS BK
      have HD : Hid (_ ∧ _ ∧ _ ∧ _) := ⟨K3, KR, KS, BK⟩
      clear K3 KR KS BK G0 G3 G BG
      go_wp2_with fail
      obtain ⟨K3, KR, KS, BK⟩ := HD.out
      clear HD c0 c1 c2 c3 c4 c5 c6
      refine (zzsub_any _ _ 22 c _ _ KS (fun p hp => KR.cell p hp)).mono ?_
      rintro x w3 ⟨rfl, M, hg⟩
      obtain ⟨c0, c1, c2, c3, c4, c5, c6⟩ := (M.cast HS.out).seven
      obtain ⟨d0, d1, d2, d3, d4, d5, d6⟩ := (K3.grown hg (by simp <;> omega)).seven
      have BM : Hid (Below w.heap.size w w3) := BK.grown hg BK.size (fun k hk => by simp at hk; omega)
      clear hg M K3 KR KS BK HS
      have heq := eq7
      go_wp2
      go_ret
      exact ⟨rfl, BM.out⟩
end Go.Proofs.Qxb6619538a
