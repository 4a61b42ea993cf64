/-
  ARRAYS OF SEVEN NUMBERS: laid in a new block, read whole, compared with themselves.
-/
import Derived.Test.Qxb6619538aSub
import Derived.DeepKeys
namespace Go.Proofs.Qxb6619538a
open Go.RowKit
set_option linter.unusedVariables false

theorem Try.cells3 : Try.prog.cellsOf 3 = 1 := by kernel_rfl
set_option maxRecDepth 100000 in
theorem eq7 (x0 x1 x2 x3 x4 x5 x6 : Int) (w : World) :
    (Op.equalIn 10000 22 (.agg #[.int .i64 x0, .int .i64 x1, .int .i64 x2, .int .i64 x3, .int .i64 x4, .int .i64 x5, .int .i64 x6]) (.agg #[.int .i64 x0, .int .i64 x1, .int .i64 x2, .int .i64 x3, .int .i64 x4, .int .i64 x5, .int .i64 x6])).run Try.prog w = .ok true w := by
  have hi : Try.prog.info? 3 = some (Try.prog.types[3]!) := by kernel_rfl
  rw [run_equalIn_array w 9999 _ _ Try.underlying22 hi, Try.cells3]
  simp [List.range, List.range.loop, Op.eqItems, go_sem, Try.underlying3]

def av (c : Nat → Int) : Value := .agg #[.int .i64 (c 0), .int .i64 (c 1), .int .i64 (c 2), .int .i64 (c 3), .int .i64 (c 4), .int .i64 (c 5), .int .i64 (c 6)]
def ac (c : Nat → Int) : Obj := .cells #[.int .i64 (c 0), .int .i64 (c 1), .int .i64 (c 2), .int .i64 (c 3), .int .i64 (c 4), .int .i64 (c 5), .int .i64 (c 6)] 22
theorem Arr.new (w : World) (c : Nat → Int) : Arr (w.alloc (ac c)) w.heap.size 22 c :=
  World.rowIs_alloc w _ 22 _ fun i hi => by
    have hi : i < 7 := hi
    match i, hi with
    | 0, _ | 1, _ | 2, _ | 3, _ | 4, _ | 5, _ | 6, _ => rfl
theorem Arr.alloc {w : World} {b : Nat} {e : TypeId} {f : Nat → Int} (h : Arr w b e f) (o : Obj) : Arr (w.alloc o) b e f := World.rowIs.alloc h o
theorem Arr.lt {w : World} {b : Nat} {e : TypeId} {f : Nat → Int} (h : Arr w b e f) : b < w.heap.size := World.rowIs.lt h
theorem Arr.grown {w w' : World} {b : Nat} {e : TypeId} {f : Nat → Int} {row : Option Nat} (h : Arr w b e f) (hg : w.grownBy w' row) (hne : some b ≠ row) : Arr w' b e f := World.rowIs.of_block h (hg.block b h.lt hne)
theorem Arr.seven {w : World} {b : Nat} {e : TypeId} {f : Nat → Int} (h : Arr w b e f) :
    w.cell? ⟨b, 0, none⟩ = some (.int .i64 (f 0)) ∧ w.cell? ⟨b, 1, none⟩ = some (.int .i64 (f 1)) ∧ w.cell? ⟨b, 2, none⟩ = some (.int .i64 (f 2)) ∧ w.cell? ⟨b, 3, none⟩ = some (.int .i64 (f 3)) ∧ w.cell? ⟨b, 4, none⟩ = some (.int .i64 (f 4)) ∧ w.cell? ⟨b, 5, none⟩ = some (.int .i64 (f 5)) ∧ w.cell? ⟨b, 6, none⟩ = some (.int .i64 (f 6)) :=
  ⟨h.cell 0 (by decide), h.cell 1 (by decide), h.cell 2 (by decide), h.cell 3 (by decide), h.cell 4 (by decide), h.cell 5 (by decide), h.cell 6 (by decide)⟩

theorem Arr.newAt (w : World) (c : Nat → Int) (n : Nat) (h : n = w.heap.size) : Arr (w.alloc (ac c)) n 22 c := h ▸ Arr.new w c
theorem four (w : World) (a b c d : Nat → Int) : Arr ((((w.alloc (ac a)).alloc (ac b)).alloc (ac c)).alloc (ac d)) w.heap.size 22 a ∧ Arr ((((w.alloc (ac a)).alloc (ac b)).alloc (ac c)).alloc (ac d)) (w.heap.size + 1) 22 b ∧ Arr ((((w.alloc (ac a)).alloc (ac b)).alloc (ac c)).alloc (ac d)) (w.heap.size + 1 + 1) 22 c ∧ Arr ((((w.alloc (ac a)).alloc (ac b)).alloc (ac c)).alloc (ac d)) (w.heap.size + 1 + 1 + 1) 22 d ∧ Below w.heap.size w ((((w.alloc (ac a)).alloc (ac b)).alloc (ac c)).alloc (ac d)) :=
  ⟨(((Arr.new w a).alloc _).alloc _).alloc _, ((Arr.newAt _ b _ (by simp)).alloc _).alloc _, (Arr.newAt _ c _ (by simp)).alloc _, Arr.newAt _ d _ (by simp), ((((Below.refl _ w).alloc (Nat.le_refl _) _).alloc (by simp) _).alloc (by simp; omega) _).alloc (by simp; omega) _⟩

theorem Arr.cast {w : World} {b : Nat} {e : TypeId} {f g : Nat → Int} (h : Arr w b e f) (hfg : ∀ p, p < 7 → f p = g p) : Arr w b e g := World.rowIs.congr h fun p hp => by rw [hfg p hp]
theorem Arr.drew {w : World} {b : Nat} {e : TypeId} {f : Nat → Int} (h : Arr w b e f) : Arr w.drew b e f := h

end Go.Proofs.Qxb6619538a
