/-
  'ZZSubtract' and 'modeCounts.subtract': seven cells of one block less seven cells of another, or of the same one.
-/
import Derived.Test.Qxb6619538aProg
import Derived.WalkKit
import Derived.WalkSpells
import Derived.WalkLawsBesides
import Derived.Deep.OwnRows
import Derived.Deep.QuietTactic
import Derived.BigQuiet
import Derived.Deep.Light
import Derived.Deep.Draws
import Derived.Below
namespace Go.Proofs.Qxb6619538a
open Go.RowKit
set_option linter.unusedVariables false
set_option linter.unusedSimpArgs false

/-- Block b is an array of the seven numbers f. -/
def Arr (w : World) (b : Nat) (e : TypeId) (f : Nat → Int) : Prop := w.rowIs b e 7 (fun p => .int .i64 (f p))
theorem Arr.cell {w : World} {b : Nat} {e : TypeId} {f : Nat → Int} (h : Arr w b e f) (p : Nat) (hp : p < 7) : w.cell? ⟨b, p, none⟩ = some (.int .i64 (f p)) := World.rowIs.cell h hp
theorem Arr.frozen {w : World} {b : Nat} {e : TypeId} {f : Nat → Int} (h : Arr w b e f) (p : Nat) : w.frozen? ⟨b, p, none⟩ = false := World.rowIs.frozen h p
theorem Arr.set {w : World} {b : Nat} {e : TypeId} {f g : Nat → Int} (h : Arr w b e f) (p : Nat) (x : Int) (hg : ∀ q, q < 7 → g q = if q = p then x else f q) : Arr (w.setCell ⟨b, p, none⟩ (.int .i64 x)) b e g :=
  World.rowIs.congr (World.rowIs.set h p _) fun q hq => by
    show (if q = p then _ else _) = Value.int .i64 (g q)
    rw [hg q hq]
    by_cases e : q = p <;> simp [e]

theorem gb_trans {w w1 w2 : World} {row : Option Nat} (h : w.grownBy w1 row) (k : w1.grownBy w2 row) : w.grownBy w2 row :=
  ⟨k.os.trans h.os, k.tape.trans h.tape, k.output.trans h.output, Nat.le_trans h.size k.size, fun i hi hne => (k.block i (Nat.lt_of_lt_of_le hi h.size) hne).trans (h.block i hi hne)⟩
theorem gb_drewN {w w1 : World} {row : Option Nat} (h : w.grownBy w1 row) (n : Nat) : w.grownBy (w1.drewN n) row := ⟨h.os, h.tape, h.output, h.size, h.block⟩
theorem gb_drew {w w1 : World} {row : Option Nat} (h : w.grownBy w1 row) : w.grownBy w1.drew row := ⟨h.os, h.tape, h.output, h.size, h.block⟩
theorem gb_set {w w1 : World} {b : Nat} (h : w.grownBy w1 (some b)) (p : Nat) (v : Value) : w.grownBy (w1.setCell ⟨b, p, none⟩ v) (some b) :=
  gb_trans h ⟨rfl, rfl, rfl, by simp, fun i _ hne => Deep.blk_setCell_other _ _ _ _ (fun e => hne (by simp only [Option.some.injEq]; exact e))⟩
theorem cell_after {w : World} {d p b q : Nat} {x : Value} (v : Value) (h : w.cell? ⟨d, p, none⟩ = some x) (hne : p ≠ q) : (w.setCell ⟨b, q, none⟩ v).cell? ⟨d, p, none⟩ = some x := by
  have h1 : ¬ q = p := fun e => hne e.symm
  by_cases hb : b = d
  · subst hb
    simp [go_sem, h, h1]
  · simp [go_sem, h, h1]

set_option maxRecDepth 100000 in
set_option maxHeartbeats 1000000 in
/-- 'subtract'. -/
theorem subtract_any (b d : Nat) (e : TypeId) (f g : Nat → Int) (w : World) (hf : Arr w b e f) (hg : ∀ p, p < 7 → w.cell? ⟨d, p, none⟩ = some (.int .i64 (g p))) :
    Calls Try.prog 7 #[.pointer (some ⟨b, 0, none⟩), .pointer (some ⟨d, 0, none⟩)] w fun x w' => x = .returned (.tuple #[]) ∧ Arr w' b e (fun p => wrap64 (f p - g p)) ∧ w.grownBy w' (some b) := by
  have HF : Hid (Arr w b e f) := hf
  have HD : Hid (∀ p, p < 7 → w.cell? ⟨d, p, none⟩ = some (.int .i64 (g p))) := hg
  clear hf hg
  go_enter Try.func7, Try.ntmps7
  go_wp2
  go_loopw [5] (fun i wr => ∃ k : Nat, k ≤ 7 ∧ i = .int .i64 k ∧ Arr wr b e (fun p => if p < k then wrap64 (f p - g p) else f p) ∧ (∀ p, k ≤ p → p < 7 → wr.cell? ⟨d, p, none⟩ = some (.int .i64 (g p))) ∧ w.grownBy wr (some b)) (fun i _ => 7 - (intOf i).toNat)
  case atStart => exact ⟨0, Nat.zero_le _, rfl, World.rowIs.congr HF.out (fun p _ => by simp), fun p _ hp => HD.out p hp, World.grownBy.refl _ _⟩
  case round =>
    obtain ⟨k, hk, rfl, ha, hd, hb⟩ := hrel
    have HA : Hid (Arr wr b e (fun p => if p < k then wrap64 (f p - g p) else f p)) := ha
    have HDD : Hid (∀ p, k ≤ p → p < 7 → wr.cell? ⟨d, p, none⟩ = some (.int .i64 (g p))) := hd
    have HB : Hid (w.grownBy wr (some b)) := hb
    clear hb hd
    by_cases hlt : k < 7
    · have c1 : wr.cell? ⟨b, k, none⟩ = some (.int .i64 (f k)) := by simpa using ha.cell k hlt
      have c2 : wr.cell? ⟨d, k, none⟩ = some (.int .i64 (g k)) := HDD.out k (Nat.le_refl _) hlt
      have fr : wr.frozen? ⟨b, k, none⟩ = false := ha.frozen k
      clear ha
      go_wp2_with fail
      go_region
      go_wp2
      refine ⟨⟨k + 1, by omega, by go_num, ?_, ?_, ?_⟩, by simp [intOf]; omega⟩
      · refine Arr.set HA.out k _ fun q hq => ?_
        by_cases e1 : q = k
        · subst e1; simp
        · by_cases e2 : q < k
          · simp [e1, e2, show q < k + 1 by omega]
          · simp [e1, e2, show ¬ q < k + 1 by omega]
      · exact fun p h1 h2 => cell_after _ (HDD.out p (by omega) h2) (by omega)
      · exact gb_drew (gb_set HB.out _ _)
    · have e : k = 7 := by omega
      subst e
      clear ha
      go_wp2
      go_end0
      exact ⟨rfl, World.rowIs.congr HA.out (fun p hp => by simp [hp]), HB.out⟩

set_option maxRecDepth 100000 in
/-- 'ZZSubtract'. -/
theorem zzsub_any (b d : Nat) (e : TypeId) (f g : Nat → Int) (w : World) (hf : Arr w b e f) (hg : ∀ p, p < 7 → w.cell? ⟨d, p, none⟩ = some (.int .i64 (g p))) :
    Calls Try.prog 6 #[.pointer (some ⟨b, 0, none⟩), .pointer (some ⟨d, 0, none⟩)] w fun x w' => x = .returned (.tuple #[]) ∧ Arr w' b e (fun p => wrap64 (f p - g p)) ∧ w.grownBy w' (some b) := by
  have HC : Hid (Calls Try.prog 7 #[.pointer (some ⟨b, 0, none⟩), .pointer (some ⟨d, 0, none⟩)] w fun x w' => x = .returned (.tuple #[]) ∧ Arr w' b e (fun p => wrap64 (f p - g p)) ∧ w.grownBy w' (some b)) := subtract_any b d e f g w hf hg
  clear hf hg
  go_enter Try.func6, Try.ntmps6
  go_wp2_with fail
  refine HC.out.mono ?_
  rintro x w' ⟨rfl, ha, hb⟩
  have HA : Hid (Arr w' b e (fun p => wrap64 (f p - g p)) ∧ w.grownBy w' (some b)) := ⟨ha, hb⟩
  clear ha hb
  go_wp2
  go_end0
  exact ⟨rfl, HA.out⟩
end Go.Proofs.Qxb6619538a
