import Derived.Test.Qxb6621684aProg
import Derived.Test.Qxb6621684aIbanPlain
import Derived.WalkKit
import Derived.WalkSpells
import Derived.WalkLawsBesides
import Derived.Deep.QuietTactic
import Derived.BigQuiet
import Derived.Deep.Light
import Derived.Test.Qxb6621684aMem
namespace Go.Proofs.Qxb6621684a
open Go.RowKit

/-- 'isDigit'. -/
theorem isDigit_any (c : Int) (w : World) : Calls Try.prog 30 #[.int .u8 c] w fun e w' => e = .returned (.bool (Ibn.digB c)) ∧ w' = w := by
  by_cases h1 : 48 ≤ c
  · by_cases h2 : c ≤ 57
    · have e : Ibn.digB c = true := by simp [Ibn.digB, h1, h2]
      rw [e]
      go_enter Try.func30, Try.ntmps30
      go_wp2
      go_ret
      exact ⟨rfl, rfl⟩
    · have e : Ibn.digB c = false := by simp [Ibn.digB, h2]
      have h2' : 57 < c := by omega
      rw [e]
      go_enter Try.func30, Try.ntmps30
      go_wp2
      go_ret
      exact ⟨rfl, rfl⟩
  · have e : Ibn.digB c = false := by simp [Ibn.digB, h1]
    have h1' : c < 48 := by omega
    rw [e]
    go_enter Try.func30, Try.ntmps30
    go_wp2
    go_ret
    exact ⟨rfl, rfl⟩

/-- The six cells of an ibanCheck at the head of block b. -/
structure IbAt (w : World) (b : Nat) (s : Ib) : Prop where
  c0 : w.cell? ⟨b, 0, none⟩ = some (.int .i64 s.ln)
  c1 : w.cell? ⟨b, 1, none⟩ = some (.int .i64 s.head)
  c2 : w.cell? ⟨b, 2, none⟩ = some (.int .i64 s.hs)
  c3 : w.cell? ⟨b, 3, none⟩ = some (.int .i64 s.rest)
  c4 : w.cell? ⟨b, 4, none⟩ = some (.bool s.up)
  c5 : w.cell? ⟨b, 5, none⟩ = some (.bool s.low)

set_option linter.unusedVariables false
set_option linter.unusedSimpArgs false
theorem set_self {w : World} {b p : Nat} {u : Value} (v : Value) (h : w.cell? ⟨b, p, none⟩ = some u) : (w.setCell ⟨b, p, none⟩ v).cell? ⟨b, p, none⟩ = some v := by simp [go_sem, h]
theorem set_other {w : World} {b p : Nat} {x : Value} (h : w.cell? ⟨b, p, none⟩ = some x) (q : Nat) (v : Value) (hne : p ≠ q) : (w.setCell ⟨b, q, none⟩ v).cell? ⟨b, p, none⟩ = some x := by
  have : ¬ q = p := fun e => hne e.symm
  simp [go_sem, h, this, hne]
theorem add_eq (s : Ib) (c : Int) (sc v : Int) (u l : Bool) (h1 : Ibn.scale c = sc) (h2 : Ibn.val c = v) (h3 : Ibn.upB c = u) (h4 : Ibn.lowB c = l) : Ibn.add s c = Ibn.addV s sc v u l := by
  rw [Ibn.add, h1, h2, h3, h4]
theorem kind_dig {c : Int} (h1 : 48 ≤ c) (h2 : c ≤ 57) : Ibn.scale c = 10 ∧ Ibn.val c = c - 48 ∧ Ibn.upB c = false ∧ Ibn.lowB c = false ∧ Ibn.digB c = true := by
  have a : ¬ 65 ≤ c := by omega
  have b : ¬ 97 ≤ c := by omega
  simp [Ibn.scale, Ibn.val, Ibn.upB, Ibn.lowB, Ibn.digB, a, b, h1, h2]
theorem kind_up {c : Int} (h1 : 65 ≤ c) (h2 : c ≤ 90) : Ibn.scale c = 100 ∧ Ibn.val c = c - 65 + 10 ∧ Ibn.upB c = true ∧ Ibn.lowB c = false ∧ Ibn.digB c = false := by
  have a : ¬ c ≤ 57 := by omega
  have b : ¬ 97 ≤ c := by omega
  simp [Ibn.scale, Ibn.val, Ibn.upB, Ibn.lowB, Ibn.digB, a, b, h1, h2]
theorem kind_low {c : Int} (h1 : 97 ≤ c) (h2 : c ≤ 122) : Ibn.scale c = 100 ∧ Ibn.val c = c - 97 + 10 ∧ Ibn.upB c = false ∧ Ibn.lowB c = true ∧ Ibn.digB c = false := by
  have a : ¬ c ≤ 57 := by omega
  have b : ¬ c ≤ 90 := by omega
  simp [Ibn.scale, Ibn.val, Ibn.upB, Ibn.lowB, Ibn.digB, a, b, h1, h2]

set_option maxRecDepth 100000 in
set_option maxHeartbeats 1000000 in
theorem add_dig_z (b : Nat) (head hs rest : Int) (up low : Bool) (c : Int) (w : World)
    (c0 : w.cell? ⟨b, 0, none⟩ = some (.int .i64 0)) (c1 : w.cell? ⟨b, 1, none⟩ = some (.int .i64 head)) (c2 : w.cell? ⟨b, 2, none⟩ = some (.int .i64 hs)) (c3 : w.cell? ⟨b, 3, none⟩ = some (.int .i64 rest)) (c4 : w.cell? ⟨b, 4, none⟩ = some (.bool up)) (c5 : w.cell? ⟨b, 5, none⟩ = some (.bool low))
    (fr : ∀ p, w.frozen? ⟨b, p, none⟩ = false) (h1 : 48 ≤ c) (h2 : c ≤ 57) (h5 : 0 ≤ head) (h6 : head < 1000000) (h7 : 0 ≤ hs) (h8 : hs ≤ 1000000) (h9 : 0 ≤ rest) (h10 : rest < 97) :
    Calls Try.prog 31 #[.pointer (some ⟨b, 0, none⟩), .int .u8 c] w fun e w' => e = .returned (.tuple #[]) ∧ IbAt w' b (Ibn.add ⟨0, head, hs, rest, up, low⟩ c) ∧ w.grownBy w' (some b) := by
  obtain ⟨e1, e2, e3, e4, e5⟩ := kind_dig h1 h2
  have HE : Hid (Ibn.add ⟨0, head, hs, rest, up, low⟩ c = _) := add_eq _ c _ _ _ _ e1 e2 e3 e4
  clear e1 e2 e3 e4
  go_enter Try.func31, Try.ntmps31
  go_wp2_with fail
  refine (isDigit_any c _).mono ?_
  rintro e w' ⟨rfl, rfl⟩
  go_wp2_with fail
  go_region
  go_wp2
  go_end0
  rw [HE.out]
  refine ⟨rfl, ?_, ?_⟩
  · constructor <;> first | (simp [go_sem, Ibn.addV, *]; done) | (simp [go_sem, Ibn.addV, *]; exact set_self _ (set_other (set_self _ (set_other c2 _ _ (by decide))) _ _ (by decide)))
  · repeat (with_reducible (first | apply gb_alloc | apply gb_drewN | apply gb_drew | apply gb_set | exact World.grownBy.refl _ _))

set_option maxRecDepth 100000 in
set_option maxHeartbeats 1000000 in
theorem add_dig_m (b : Nat) (ln head hs rest : Int) (up low : Bool) (c : Int) (w : World)
    (c0 : w.cell? ⟨b, 0, none⟩ = some (.int .i64 ln)) (c1 : w.cell? ⟨b, 1, none⟩ = some (.int .i64 head)) (c2 : w.cell? ⟨b, 2, none⟩ = some (.int .i64 hs)) (c3 : w.cell? ⟨b, 3, none⟩ = some (.int .i64 rest)) (c4 : w.cell? ⟨b, 4, none⟩ = some (.bool up)) (c5 : w.cell? ⟨b, 5, none⟩ = some (.bool low))
    (fr : ∀ p, w.frozen? ⟨b, p, none⟩ = false) (h1 : 48 ≤ c) (h2 : c ≤ 57) (h3 : 1 ≤ ln) (h4 : ln < 4) (h5 : 0 ≤ head) (h6 : head < 1000000) (h7 : 0 ≤ hs) (h8 : hs ≤ 1000000) (h9 : 0 ≤ rest) (h10 : rest < 97) :
    Calls Try.prog 31 #[.pointer (some ⟨b, 0, none⟩), .int .u8 c] w fun e w' => e = .returned (.tuple #[]) ∧ IbAt w' b (Ibn.add ⟨ln, head, hs, rest, up, low⟩ c) ∧ w.grownBy w' (some b) := by
  obtain ⟨e1, e2, e3, e4, e5⟩ := kind_dig h1 h2
  have HE : Hid (Ibn.add ⟨ln, head, hs, rest, up, low⟩ c = _) := add_eq _ c _ _ _ _ e1 e2 e3 e4
  clear e1 e2 e3 e4
  have z : (ln == 0) = false := by simp; omega
  go_enter Try.func31, Try.ntmps31
  go_wp2_with fail
  refine (isDigit_any c _).mono ?_
  rintro e w' ⟨rfl, rfl⟩
  go_wp2_with fail
  go_region
  go_wp2
  go_end0
  rw [HE.out]
  have z0 : ¬ ln = 0 := by omega
  have z4 : ln < 4 := h4
  refine ⟨rfl, ?_, ?_⟩
  · constructor <;> first | (simp [go_sem, Ibn.addV, z0, z4, *]; done) | (simp [go_sem, Ibn.addV, z0, z4, *]; exact set_self _ (set_other (set_self _ (set_other c2 _ _ (by decide))) _ _ (by decide)))
  · repeat (with_reducible (first | apply gb_alloc | apply gb_drewN | apply gb_drew | apply gb_set | exact World.grownBy.refl _ _))

set_option maxRecDepth 100000 in
set_option maxHeartbeats 1000000 in
theorem add_dig_g (b : Nat) (ln head hs rest : Int) (up low : Bool) (c : Int) (w : World)
    (c0 : w.cell? ⟨b, 0, none⟩ = some (.int .i64 ln)) (c1 : w.cell? ⟨b, 1, none⟩ = some (.int .i64 head)) (c2 : w.cell? ⟨b, 2, none⟩ = some (.int .i64 hs)) (c3 : w.cell? ⟨b, 3, none⟩ = some (.int .i64 rest)) (c4 : w.cell? ⟨b, 4, none⟩ = some (.bool up)) (c5 : w.cell? ⟨b, 5, none⟩ = some (.bool low))
    (fr : ∀ p, w.frozen? ⟨b, p, none⟩ = false) (h1 : 48 ≤ c) (h2 : c ≤ 57) (h3 : 4 ≤ ln) (h4 : ln ≤ 2000000) (h9 : 0 ≤ rest) (h10 : rest < 97) :
    Calls Try.prog 31 #[.pointer (some ⟨b, 0, none⟩), .int .u8 c] w fun e w' => e = .returned (.tuple #[]) ∧ IbAt w' b (Ibn.add ⟨ln, head, hs, rest, up, low⟩ c) ∧ w.grownBy w' (some b) := by
  obtain ⟨e1, e2, e3, e4, e5⟩ := kind_dig h1 h2
  have HE : Hid (Ibn.add ⟨ln, head, hs, rest, up, low⟩ c = _) := add_eq _ c _ _ _ _ e1 e2 e3 e4
  clear e1 e2 e3 e4
  have z : decide (ln < 4) = false := by simp; omega
  go_enter Try.func31, Try.ntmps31
  go_wp2_with fail
  refine (isDigit_any c _).mono ?_
  rintro e w' ⟨rfl, rfl⟩
  go_wp2
  go_end0
  rw [HE.out]
  have z4 : ¬ ln < 4 := by omega
  refine ⟨rfl, ?_, ?_⟩
  · constructor <;> first | (simp [go_sem, Ibn.addV, z4, *]; done) | (simp [go_sem, Ibn.addV, z4, *]; exact set_self _ (set_other (set_self _ (set_other c2 _ _ (by decide))) _ _ (by decide)))
  · repeat (with_reducible (first | apply gb_alloc | apply gb_drewN | apply gb_drew | apply gb_set | exact World.grownBy.refl _ _))

set_option maxRecDepth 100000 in
set_option maxHeartbeats 1000000 in
theorem add_up_z (b : Nat) (head hs rest : Int) (up low : Bool) (c : Int) (w : World)
    (c0 : w.cell? ⟨b, 0, none⟩ = some (.int .i64 0)) (c1 : w.cell? ⟨b, 1, none⟩ = some (.int .i64 head)) (c2 : w.cell? ⟨b, 2, none⟩ = some (.int .i64 hs)) (c3 : w.cell? ⟨b, 3, none⟩ = some (.int .i64 rest)) (c4 : w.cell? ⟨b, 4, none⟩ = some (.bool up)) (c5 : w.cell? ⟨b, 5, none⟩ = some (.bool low))
    (fr : ∀ p, w.frozen? ⟨b, p, none⟩ = false) (h1 : 65 ≤ c) (h2 : c ≤ 90) (h5 : 0 ≤ head) (h6 : head < 1000000) (h7 : 0 ≤ hs) (h8 : hs ≤ 1000000) (h9 : 0 ≤ rest) (h10 : rest < 97) :
    Calls Try.prog 31 #[.pointer (some ⟨b, 0, none⟩), .int .u8 c] w fun e w' => e = .returned (.tuple #[]) ∧ IbAt w' b (Ibn.add ⟨0, head, hs, rest, up, low⟩ c) ∧ w.grownBy w' (some b) := by
  obtain ⟨e1, e2, e3, e4, e5⟩ := kind_up h1 h2
  have HE : Hid (Ibn.add ⟨0, head, hs, rest, up, low⟩ c = _) := add_eq _ c _ _ _ _ e1 e2 e3 e4
  clear e1 e2 e3 e4
  go_enter Try.func31, Try.ntmps31
  go_wp2_with fail
  refine (isDigit_any c _).mono ?_
  rintro e w' ⟨rfl, rfl⟩
  go_wp2_with fail
  go_region
  go_wp2
  go_end0
  rw [HE.out]
  refine ⟨rfl, ?_, ?_⟩
  · constructor <;> first | (simp [go_sem, Ibn.addV, *]; done) | (simp [go_sem, Ibn.addV, *]; exact set_self _ (set_other (set_self _ (set_other c2 _ _ (by decide))) _ _ (by decide)))
  · repeat (with_reducible (first | apply gb_alloc | apply gb_drewN | apply gb_drew | apply gb_set | exact World.grownBy.refl _ _))

set_option maxRecDepth 100000 in
set_option maxHeartbeats 1000000 in
theorem add_up_m (b : Nat) (ln head hs rest : Int) (up low : Bool) (c : Int) (w : World)
    (c0 : w.cell? ⟨b, 0, none⟩ = some (.int .i64 ln)) (c1 : w.cell? ⟨b, 1, none⟩ = some (.int .i64 head)) (c2 : w.cell? ⟨b, 2, none⟩ = some (.int .i64 hs)) (c3 : w.cell? ⟨b, 3, none⟩ = some (.int .i64 rest)) (c4 : w.cell? ⟨b, 4, none⟩ = some (.bool up)) (c5 : w.cell? ⟨b, 5, none⟩ = some (.bool low))
    (fr : ∀ p, w.frozen? ⟨b, p, none⟩ = false) (h1 : 65 ≤ c) (h2 : c ≤ 90) (h3 : 1 ≤ ln) (h4 : ln < 4) (h5 : 0 ≤ head) (h6 : head < 1000000) (h7 : 0 ≤ hs) (h8 : hs ≤ 1000000) (h9 : 0 ≤ rest) (h10 : rest < 97) :
    Calls Try.prog 31 #[.pointer (some ⟨b, 0, none⟩), .int .u8 c] w fun e w' => e = .returned (.tuple #[]) ∧ IbAt w' b (Ibn.add ⟨ln, head, hs, rest, up, low⟩ c) ∧ w.grownBy w' (some b) := by
  obtain ⟨e1, e2, e3, e4, e5⟩ := kind_up h1 h2
  have HE : Hid (Ibn.add ⟨ln, head, hs, rest, up, low⟩ c = _) := add_eq _ c _ _ _ _ e1 e2 e3 e4
  clear e1 e2 e3 e4
  have z : (ln == 0) = false := by simp; omega
  go_enter Try.func31, Try.ntmps31
  go_wp2_with fail
  refine (isDigit_any c _).mono ?_
  rintro e w' ⟨rfl, rfl⟩
  go_wp2_with fail
  go_region
  go_wp2
  go_end0
  rw [HE.out]
  have z0 : ¬ ln = 0 := by omega
  have z4 : ln < 4 := h4
  refine ⟨rfl, ?_, ?_⟩
  · constructor <;> first | (simp [go_sem, Ibn.addV, z0, z4, *]; done) | (simp [go_sem, Ibn.addV, z0, z4, *]; exact set_self _ (set_other (set_self _ (set_other c2 _ _ (by decide))) _ _ (by decide)))
  · repeat (with_reducible (first | apply gb_alloc | apply gb_drewN | apply gb_drew | apply gb_set | exact World.grownBy.refl _ _))

set_option maxRecDepth 100000 in
set_option maxHeartbeats 1000000 in
theorem add_up_g (b : Nat) (ln head hs rest : Int) (up low : Bool) (c : Int) (w : World)
    (c0 : w.cell? ⟨b, 0, none⟩ = some (.int .i64 ln)) (c1 : w.cell? ⟨b, 1, none⟩ = some (.int .i64 head)) (c2 : w.cell? ⟨b, 2, none⟩ = some (.int .i64 hs)) (c3 : w.cell? ⟨b, 3, none⟩ = some (.int .i64 rest)) (c4 : w.cell? ⟨b, 4, none⟩ = some (.bool up)) (c5 : w.cell? ⟨b, 5, none⟩ = some (.bool low))
    (fr : ∀ p, w.frozen? ⟨b, p, none⟩ = false) (h1 : 65 ≤ c) (h2 : c ≤ 90) (h3 : 4 ≤ ln) (h4 : ln ≤ 2000000) (h9 : 0 ≤ rest) (h10 : rest < 97) :
    Calls Try.prog 31 #[.pointer (some ⟨b, 0, none⟩), .int .u8 c] w fun e w' => e = .returned (.tuple #[]) ∧ IbAt w' b (Ibn.add ⟨ln, head, hs, rest, up, low⟩ c) ∧ w.grownBy w' (some b) := by
  obtain ⟨e1, e2, e3, e4, e5⟩ := kind_up h1 h2
  have HE : Hid (Ibn.add ⟨ln, head, hs, rest, up, low⟩ c = _) := add_eq _ c _ _ _ _ e1 e2 e3 e4
  clear e1 e2 e3 e4
  have z : decide (ln < 4) = false := by simp; omega
  go_enter Try.func31, Try.ntmps31
  go_wp2_with fail
  refine (isDigit_any c _).mono ?_
  rintro e w' ⟨rfl, rfl⟩
  go_wp2
  go_end0
  rw [HE.out]
  have z4 : ¬ ln < 4 := by omega
  refine ⟨rfl, ?_, ?_⟩
  · constructor <;> first | (simp [go_sem, Ibn.addV, z4, *]; done) | (simp [go_sem, Ibn.addV, z4, *]; exact set_self _ (set_other (set_self _ (set_other c2 _ _ (by decide))) _ _ (by decide)))
  · repeat (with_reducible (first | apply gb_alloc | apply gb_drewN | apply gb_drew | apply gb_set | exact World.grownBy.refl _ _))

set_option maxRecDepth 100000 in
set_option maxHeartbeats 1000000 in
theorem add_low_z (b : Nat) (head hs rest : Int) (up low : Bool) (c : Int) (w : World)
    (c0 : w.cell? ⟨b, 0, none⟩ = some (.int .i64 0)) (c1 : w.cell? ⟨b, 1, none⟩ = some (.int .i64 head)) (c2 : w.cell? ⟨b, 2, none⟩ = some (.int .i64 hs)) (c3 : w.cell? ⟨b, 3, none⟩ = some (.int .i64 rest)) (c4 : w.cell? ⟨b, 4, none⟩ = some (.bool up)) (c5 : w.cell? ⟨b, 5, none⟩ = some (.bool low))
    (fr : ∀ p, w.frozen? ⟨b, p, none⟩ = false) (h1 : 97 ≤ c) (h2 : c ≤ 122) (h5 : 0 ≤ head) (h6 : head < 1000000) (h7 : 0 ≤ hs) (h8 : hs ≤ 1000000) (h9 : 0 ≤ rest) (h10 : rest < 97) :
    Calls Try.prog 31 #[.pointer (some ⟨b, 0, none⟩), .int .u8 c] w fun e w' => e = .returned (.tuple #[]) ∧ IbAt w' b (Ibn.add ⟨0, head, hs, rest, up, low⟩ c) ∧ w.grownBy w' (some b) := by
  obtain ⟨e1, e2, e3, e4, e5⟩ := kind_low h1 h2
  have HE : Hid (Ibn.add ⟨0, head, hs, rest, up, low⟩ c = _) := add_eq _ c _ _ _ _ e1 e2 e3 e4
  clear e1 e2 e3 e4
  go_enter Try.func31, Try.ntmps31
  go_wp2_with fail
  refine (isDigit_any c _).mono ?_
  rintro e w' ⟨rfl, rfl⟩
  go_wp2_with fail
  go_region
  go_wp2
  go_end0
  rw [HE.out]
  refine ⟨rfl, ?_, ?_⟩
  · constructor <;> first | (simp [go_sem, Ibn.addV, *]; done) | (simp [go_sem, Ibn.addV, *]; exact set_self _ (set_other (set_self _ (set_other c2 _ _ (by decide))) _ _ (by decide)))
  · repeat (with_reducible (first | apply gb_alloc | apply gb_drewN | apply gb_drew | apply gb_set | exact World.grownBy.refl _ _))

set_option maxRecDepth 100000 in
set_option maxHeartbeats 1000000 in
theorem add_low_m (b : Nat) (ln head hs rest : Int) (up low : Bool) (c : Int) (w : World)
    (c0 : w.cell? ⟨b, 0, none⟩ = some (.int .i64 ln)) (c1 : w.cell? ⟨b, 1, none⟩ = some (.int .i64 head)) (c2 : w.cell? ⟨b, 2, none⟩ = some (.int .i64 hs)) (c3 : w.cell? ⟨b, 3, none⟩ = some (.int .i64 rest)) (c4 : w.cell? ⟨b, 4, none⟩ = some (.bool up)) (c5 : w.cell? ⟨b, 5, none⟩ = some (.bool low))
    (fr : ∀ p, w.frozen? ⟨b, p, none⟩ = false) (h1 : 97 ≤ c) (h2 : c ≤ 122) (h3 : 1 ≤ ln) (h4 : ln < 4) (h5 : 0 ≤ head) (h6 : head < 1000000) (h7 : 0 ≤ hs) (h8 : hs ≤ 1000000) (h9 : 0 ≤ rest) (h10 : rest < 97) :
    Calls Try.prog 31 #[.pointer (some ⟨b, 0, none⟩), .int .u8 c] w fun e w' => e = .returned (.tuple #[]) ∧ IbAt w' b (Ibn.add ⟨ln, head, hs, rest, up, low⟩ c) ∧ w.grownBy w' (some b) := by
  obtain ⟨e1, e2, e3, e4, e5⟩ := kind_low h1 h2
  have HE : Hid (Ibn.add ⟨ln, head, hs, rest, up, low⟩ c = _) := add_eq _ c _ _ _ _ e1 e2 e3 e4
  clear e1 e2 e3 e4
  have z : (ln == 0) = false := by simp; omega
  go_enter Try.func31, Try.ntmps31
  go_wp2_with fail
  refine (isDigit_any c _).mono ?_
  rintro e w' ⟨rfl, rfl⟩
  go_wp2_with fail
  go_region
  go_wp2
  go_end0
  rw [HE.out]
  have z0 : ¬ ln = 0 := by omega
  have z4 : ln < 4 := h4
  refine ⟨rfl, ?_, ?_⟩
  · constructor <;> first | (simp [go_sem, Ibn.addV, z0, z4, *]; done) | (simp [go_sem, Ibn.addV, z0, z4, *]; exact set_self _ (set_other (set_self _ (set_other c2 _ _ (by decide))) _ _ (by decide)))
  · repeat (with_reducible (first | apply gb_alloc | apply gb_drewN | apply gb_drew | apply gb_set | exact World.grownBy.refl _ _))

set_option maxRecDepth 100000 in
set_option maxHeartbeats 1000000 in
theorem add_low_g (b : Nat) (ln head hs rest : Int) (up low : Bool) (c : Int) (w : World)
    (c0 : w.cell? ⟨b, 0, none⟩ = some (.int .i64 ln)) (c1 : w.cell? ⟨b, 1, none⟩ = some (.int .i64 head)) (c2 : w.cell? ⟨b, 2, none⟩ = some (.int .i64 hs)) (c3 : w.cell? ⟨b, 3, none⟩ = some (.int .i64 rest)) (c4 : w.cell? ⟨b, 4, none⟩ = some (.bool up)) (c5 : w.cell? ⟨b, 5, none⟩ = some (.bool low))
    (fr : ∀ p, w.frozen? ⟨b, p, none⟩ = false) (h1 : 97 ≤ c) (h2 : c ≤ 122) (h3 : 4 ≤ ln) (h4 : ln ≤ 2000000) (h9 : 0 ≤ rest) (h10 : rest < 97) :
    Calls Try.prog 31 #[.pointer (some ⟨b, 0, none⟩), .int .u8 c] w fun e w' => e = .returned (.tuple #[]) ∧ IbAt w' b (Ibn.add ⟨ln, head, hs, rest, up, low⟩ c) ∧ w.grownBy w' (some b) := by
  obtain ⟨e1, e2, e3, e4, e5⟩ := kind_low h1 h2
  have HE : Hid (Ibn.add ⟨ln, head, hs, rest, up, low⟩ c = _) := add_eq _ c _ _ _ _ e1 e2 e3 e4
  clear e1 e2 e3 e4
  have z : decide (ln < 4) = false := by simp; omega
  go_enter Try.func31, Try.ntmps31
  go_wp2_with fail
  refine (isDigit_any c _).mono ?_
  rintro e w' ⟨rfl, rfl⟩
  go_wp2
  go_end0
  rw [HE.out]
  have z4 : ¬ ln < 4 := by omega
  refine ⟨rfl, ?_, ?_⟩
  · constructor <;> first | (simp [go_sem, Ibn.addV, z4, *]; done) | (simp [go_sem, Ibn.addV, z4, *]; exact set_self _ (set_other (set_self _ (set_other c2 _ _ (by decide))) _ _ (by decide)))
  · repeat (with_reducible (first | apply gb_alloc | apply gb_drewN | apply gb_drew | apply gb_set | exact World.grownBy.refl _ _))

theorem add_any (b : Nat) (s : Ib) (c : Int) (hs : Ibn.Fine s) (hl : s.ln ≤ 2000000) (hc : Ibn.Al c) (w : World) (h : IbAt w b s) (fr : ∀ p, w.frozen? ⟨b, p, none⟩ = false) :
    Calls Try.prog 31 #[.pointer (some ⟨b, 0, none⟩), .int .u8 c] w fun e w' => e = .returned (.tuple #[]) ∧ IbAt w' b (Ibn.add s c) ∧ w.grownBy w' (some b) := by
  obtain ⟨ln, head, hsc, rest, up, low⟩ := s
  obtain ⟨a1, a2, a3, a4, a5, b0, b1, b2, b3, b4⟩ := hs
  obtain ⟨c0, c1, c2, c3, c4, c5⟩ := h
  simp only at *
  have hlow : ln < 4 → head < 1000000 ∧ hsc ≤ 1000000 := by
    intro h
    rcases (show ln = 0 ∨ ln = 1 ∨ ln = 2 ∨ ln = 3 by omega) with e | e | e | e
    · have := b0 e; omega
    · have := b1 e; omega
    · have := b2 e; omega
    · have := b3 e; omega
  unfold Ibn.Al at hc
  rcases (show ln = 0 ∨ (1 ≤ ln ∧ ln < 4) ∨ 4 ≤ ln by omega) with rfl | ⟨h3, h4⟩ | h3
  · obtain ⟨p, q⟩ := hlow (by omega)
    rcases hc with ⟨h1, h2⟩ | ⟨h1, h2⟩ | ⟨h1, h2⟩
    · exact add_dig_z b head hsc rest up low c w c0 c1 c2 c3 c4 c5 fr h1 h2 a2 p a3 q a4 a5
    · exact add_up_z b head hsc rest up low c w c0 c1 c2 c3 c4 c5 fr h1 h2 a2 p a3 q a4 a5
    · exact add_low_z b head hsc rest up low c w c0 c1 c2 c3 c4 c5 fr h1 h2 a2 p a3 q a4 a5
  · obtain ⟨p, q⟩ := hlow h4
    rcases hc with ⟨h1, h2⟩ | ⟨h1, h2⟩ | ⟨h1, h2⟩
    · exact add_dig_m b ln head hsc rest up low c w c0 c1 c2 c3 c4 c5 fr h1 h2 h3 h4 a2 p a3 q a4 a5
    · exact add_up_m b ln head hsc rest up low c w c0 c1 c2 c3 c4 c5 fr h1 h2 h3 h4 a2 p a3 q a4 a5
    · exact add_low_m b ln head hsc rest up low c w c0 c1 c2 c3 c4 c5 fr h1 h2 h3 h4 a2 p a3 q a4 a5
  · rcases hc with ⟨h1, h2⟩ | ⟨h1, h2⟩ | ⟨h1, h2⟩
    · exact add_dig_g b ln head hsc rest up low c w c0 c1 c2 c3 c4 c5 fr h1 h2 h3 hl a4 a5
    · exact add_up_g b ln head hsc rest up low c w c0 c1 c2 c3 c4 c5 fr h1 h2 h3 hl a4 a5
    · exact add_low_g b ln head hsc rest up low c w c0 c1 c2 c3 c4 c5 fr h1 h2 h3 hl a4 a5

end Go.Proofs.Qxb6621684a
