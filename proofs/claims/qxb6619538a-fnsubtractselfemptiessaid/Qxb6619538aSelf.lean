/-
  'FnSubtractSelfEmpties': THE WALK.
-/
import Derived.Test.Qxb6619538aArr
namespace Go.Proofs.Qxb6619538a
open Go.RowKit
set_option linter.unusedVariables false

theorem two (w : World) (a b : Nat → Int) : Arr ((w.alloc (ac a)).alloc (ac b)) w.heap.size 22 a ∧ Arr ((w.alloc (ac a)).alloc (ac b)) (w.heap.size + 1) 22 b ∧ Below w.heap.size w ((w.alloc (ac a)).alloc (ac b)) :=
  ⟨(Arr.new w a).alloc _, Arr.newAt _ b _ (by simp), ((Below.refl _ w).alloc (Nat.le_refl _) _).alloc (by simp) _⟩

set_option maxRecDepth 100000 in
set_option maxHeartbeats 1000000 in
theorem self_walk (c : Nat → Int) (h0 : ∀ p, p < 7 → wrap64 (c p - c p) = (fun _ => 0) p) (hc : ∀ p, p < 7 → wrap64 (c p - (fun _ => 0) p) = c p) (w : World) :
    Calls Try.prog 5 #[av c] w fun e w' => e = .returned (.bool true) ∧ Below w.heap.size w w' := by
  have A : Hid (Arr ((w.alloc (ac c)).alloc (ac c)) w.heap.size 22 c ∧ Arr ((w.alloc (ac c)).alloc (ac c)) (w.heap.size + 1) 22 c ∧ Below w.heap.size w ((w.alloc (ac c)).alloc (ac c))) := two w c c
  have H0 : Hid (∀ p, p < 7 → wrap64 (c p - c p) = (fun _ => 0) p) := h0
  have HC : Hid (∀ p, p < 7 → wrap64 (c p - (fun _ => 0) p) = c p) := hc
  unfold av
  unfold ac at A
  clear h0 hc
  go_enter Try.func5, Try.ntmps5
  go_wp2_with fail
  obtain ⟨A0, A1, B0⟩ := A.out
  clear A
  refine (zzsub_any _ _ 22 c c _ A1 (fun p hp => A1.cell p hp)).mono ?_
  rintro e w1 ⟨rfl, ha, hg⟩
  replace ha := ha.cast H0.out
  have C0 := A0.grown hg (by simp <;> omega)
  have L1 := ha.lt
  have L0 := C0.lt
  have B1 : Hid (Below w.heap.size w w1) := B0.grown hg (by simp; omega) (fun k hk => by simp at hk; omega)
  clear hg A0 A1 B0 H0
  obtain ⟨c0, c1, c2, c3, c4, c5, c6⟩ := C0.seven
  obtain ⟨d0, d1, d2, d3, d4, d5, d6⟩ := ha.seven
  have HA : Hid (Arr w1 (w.heap.size + 1) 22 (fun _ => 0)) := ha
  have HC0 : Hid (Arr w1 w.heap.size 22 c) := C0
  clear C0 ha
  have heq := eq7
  go_wp2_with fail
  have C3 := (HA.out.alloc (ac fun _ => 0)).alloc (ac c)
  have C4 := (HC0.out.alloc (ac fun _ => 0)).alloc (ac c)
  have B2 := (B1.out.alloc B1.out.size (ac fun _ => 0)).alloc (by simp; omega) (ac c)
  have C5 := Arr.newAt (w1.alloc (ac fun _ => 0)) c (w1.heap.size + 1) (by simp)
  clear HA HC0 B1 c0 c1 c2 c3 c4 c5 c6 d0 d1 d2 d3 d4 d5 d6
  unfold ac at C3 C4 C5 B2
  refine (zzsub_any _ _ 22 c _ _ C5 (fun p hp => C3.cell p hp)).mono ?_
  rintro e w2 ⟨rfl, ha, hg⟩
  obtain ⟨c0, c1, c2, c3, c4, c5, c6⟩ := (ha.cast HC.out).seven
  obtain ⟨d0, d1, d2, d3, d4, d5, d6⟩ := (C4.grown hg (by simp <;> omega)).seven
  have B3 : Hid (Below w.heap.size w w2) := B2.grown hg (by simp; omega) (fun k hk => by simp at hk; omega)
  clear hg ha C3 C4 C5 B2 L0 L1 HC
  go_wp2
  go_ret
  exact ⟨rfl, B3.out⟩
end Go.Proofs.Qxb6619538a
