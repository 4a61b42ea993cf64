/-
  'FnSubtractRoundTrip': THE WALK.
-/
import Derived.Test.Qxb6619538aArr
namespace Go.Proofs.Qxb6619538a
open Go.RowKit
set_option linter.unusedVariables false

set_option maxRecDepth 100000 in
set_option maxHeartbeats 1000000 in
theorem round_walk (c d : Nat → Int) (hd : ∀ p, p < 7 → wrap64 (c p - wrap64 (c p - d p)) = d p) (w : World) :
    Calls Try.prog 3 #[av c, av d] w fun e w' => e = .returned (.bool true) ∧ Below w.heap.size w w' := by
  have A : Hid (Arr ((((w.alloc (ac c)).alloc (ac d)).alloc (ac d)).alloc (ac c)) w.heap.size 22 c ∧ Arr ((((w.alloc (ac c)).alloc (ac d)).alloc (ac d)).alloc (ac c)) (w.heap.size + 1) 22 d ∧ Arr ((((w.alloc (ac c)).alloc (ac d)).alloc (ac d)).alloc (ac c)) (w.heap.size + 1 + 1) 22 d ∧ Arr ((((w.alloc (ac c)).alloc (ac d)).alloc (ac d)).alloc (ac c)) (w.heap.size + 1 + 1 + 1) 22 c ∧ Below w.heap.size w ((((w.alloc (ac c)).alloc (ac d)).alloc (ac d)).alloc (ac c))) := four w c d d c
  have HW : Hid (∀ p, p < 7 → wrap64 (c p - wrap64 (c p - d p)) = d p) := hd
  unfold av
  unfold ac at A
  clear hd
  go_enter Try.func3, Try.ntmps3
  go_wp2_with fail
  obtain ⟨A0, A1, A2, A3, B0⟩ := A.out
  clear A
  refine (zzsub_any _ _ 22 c d _ A3 (fun p hp => A1.cell p hp)).mono ?_
  rintro e w1 ⟨rfl, ha, hg⟩
  have C0 := A0.grown hg (by simp <;> omega)
  have C1 := A1.grown hg (by simp <;> omega)
  have C2 := A2.grown hg (by simp <;> omega)
  have B1 : Hid (Below w.heap.size w w1) := B0.grown hg (by simp; omega) (fun k hk => by simp at hk; omega)
  clear hg A0 A1 A2 A3 B0
  obtain ⟨c0, c1, c2, c3, c4, c5, c6⟩ := C0.seven
  obtain ⟨d0, d1, d2, d3, d4, d5, d6⟩ := C1.seven
  obtain ⟨e0, e1, e2, e3, e4, e5, e6⟩ := C2.seven
  have HA : Hid (Arr w1 (w.heap.size + 1 + 1 + 1) 22 (fun p => wrap64 (c p - d p))) := ha
  have HC2 : Hid (Arr w1 (w.heap.size + 1 + 1) 22 d) := C2
  clear C0 C1 C2 ha
  have heq := eq7
  go_wp2_with fail
  have C3 := HA.out.alloc (ac c)
  have C4 := HC2.out.alloc (ac c)
  have B2 := B1.out.alloc B1.out.size (ac c)
  have C5 := Arr.new w1 c
  have L2 := HC2.out.lt
  clear HA HC2 B1 c0 c1 c2 c3 c4 c5 c6 d0 d1 d2 d3 d4 d5 d6 e0 e1 e2 e3 e4 e5 e6
  unfold ac at C3 C4 C5 B2
  refine (zzsub_any _ _ 22 c _ _ C5 (fun p hp => C3.cell p hp)).mono ?_
  rintro e w2 ⟨rfl, ha, hg⟩
  obtain ⟨c0, c1, c2, c3, c4, c5, c6⟩ := (ha.cast HW.out).seven
  obtain ⟨d0, d1, d2, d3, d4, d5, d6⟩ := (C4.grown hg (by simp <;> omega)).seven
  have B3 : Hid (Below w.heap.size w w2) := B2.grown hg (by simp; omega) (fun k hk => by simp at hk; omega)
  clear hg ha C3 C4 C5 B2 L2 HW
  go_wp2
  go_ret
  exact ⟨rfl, B3.out⟩
end Go.Proofs.Qxb6619538a
