/-
  'make' of a row of candidates; the six rows of fields; lists behind k rounds. Laws on worlds and lists, outside every walk.
-/
import Derived.Test.Qxb6621684aProg
import Derived.Test.Qxb6621684aState
namespace Go.Proofs.Qxb6621684a
open Go.RowKit

theorem Try.zero53 : (Try.prog.info? 53).map (fun i => (i.zero.map Value.cells, i.size, i.bytes)) = some (some #[.string ByteArray.empty, .int .i64 0, .int .i64 0, .int .i64 0, .int .i64 0, .int .i64 0], 6, 56) := by kernel_rfl
theorem Try.zero34 : (Try.prog.info? 34).map (fun i => (i.zero.map Value.cells, i.size, i.bytes)) = some (some #[.string ByteArray.empty, .int .i64 0, .int .i64 0, .int .i64 0, .int .i64 0, .int .i64 0], 6, 56) := by kernel_rfl
theorem Try.info9 : (Try.prog.info? 9).map (fun i => (i.zero, i.size, i.bytes)) = some (some (.string ByteArray.empty), 1, 16) := by kernel_rfl
theorem Try.info3 : (Try.prog.info? 3).map (fun i => (i.zero, i.size, i.bytes)) = some (some (.int .i64 0), 1, 8) := by kernel_rfl

/-- What 'make([]Cand, n)' lays. -/
def six0 (n : Nat) : Array Value := madeCells #[.string ByteArray.empty, .int .i64 0, .int .i64 0, .int .i64 0, .int .i64 0, .int .i64 0] (n * 6)

theorem run_make6 {P : Program} (t e : TypeId) (ht : P.underlying t = some (.slice e))
    (hinfo : (P.info? e).map (fun i => (i.zero.map Value.cells, i.size, i.bytes)) = some (some #[.string ByteArray.empty, .int .i64 0, .int .i64 0, .int .i64 0, .int .i64 0, .int .i64 0], 6, 56))
    (n c : Nat) (hnc : n ≤ c) (hn : c ≤ 1000000000) (w : World) :
    (Instr.makeSlice t (.int .i64 (n : Int)) (.int .i64 (c : Int))).run P w = .ok (.slice (some ⟨w.heap.size, 0, none⟩) n c) (w.alloc (.cells (six0 c) e)) := by
  obtain ⟨i, hi, hz⟩ := Option.map_eq_some_iff.1 hinfo
  simp only [Prod.mk.injEq] at hz
  obtain ⟨h1, h2, h3⟩ := hz
  obtain ⟨z, hz, hzc⟩ := Option.map_eq_some_iff.1 h1
  have hr := run_make (P := P) w t e i z ht hi hz .i64 .i64 n c (by omega) (by omega) (by rw [h3]; omega) (by omega)
  rw [hzc, h2] at hr
  simp only [Int.toNat_natCast] at hr
  exact hr

theorem row_made (w : World) (e : TypeId) (n : Nat) : Row (w.alloc (.cells (six0 n) e)) w.heap.size e (List.replicate n noCd) := by
  unfold Row
  rw [List.length_replicate]
  refine ⟨_, Deep.blk_alloc_new _ _, size_madeCells _ _, fun i hi => ?_⟩
  have h1 : (List.replicate n noCd).getD (i / 6) noCd = noCd := by
    simp only [List.getD, List.getElem?_replicate]
    split <;> rfl
  unfold six0 madeCells fv
  rw [h1]
  simp only [Array.getElem?_map, Array.getElem?_range, hi, if_true, Option.map_some, Option.some.injEq]
  have hm : i % 6 < 6 := by omega
  show (#[Value.string ByteArray.empty, .int .i64 0, .int .i64 0, .int .i64 0, .int .i64 0, .int .i64 0] : Array Value)[i % 6]! = _
  match i % 6, hm with
  | 0, _ | 1, _ | 2, _ | 3, _ | 4, _ | 5, _ => rfl

/-! ### The list behind k stores -/
def filled (l : List Cd) (n k : Nat) : List Cd := l.take k ++ List.replicate (n - k) noCd
theorem filled_zero (l : List Cd) (n : Nat) : filled l n 0 = List.replicate n noCd := by simp [filled]
theorem filled_all (l : List Cd) (n : Nat) (h : l.length = n) : filled l n n = l := by simp [filled, ← h]
theorem filled_len (l : List Cd) (n k : Nat) (h : l.length = n) (hk : k ≤ n) : (filled l n k).length = n := by
  simp [filled]; omega
theorem filled_succ (l : List Cd) (n k : Nat) (h : l.length = n) (hk : k < n) : (filled l n k).set k (l.getD k noCd) = filled l n (k + 1) := by
  unfold filled
  have hl : (l.take k).length = k := by simp; omega
  rw [List.set_append_right _ _ (by omega), hl, Nat.sub_self, show n - k = (n - (k + 1)) + 1 by omega, List.replicate_succ, List.set_cons_zero, List.take_succ_eq_append_getElem (by omega), List.append_assoc]
  have : l.getD k noCd = l[k]'(by omega) := by simp [List.getD, show k < l.length by omega]
  rw [this]
  rfl

theorem Row.setOther {w : World} {b : Nat} {e : TypeId} {L : List Cd} (h : Row w b e L) {a : Addr} (ha : ¬ b = a.block) (v : Value) : Row (w.setCell a v) b e L := World.rowIs.setOther h ha v

/-! ### Six rows, a field each -/
structure Six (w : World) (B n : Nat) (M : List Cd) : Prop where
  r0 : w.rowIs B 9 n (fun i => .string (M.getD i noCd).ty)
  r1 : w.rowIs (B + 1) 3 n (fun i => .int .i64 (M.getD i noCd).st)
  r2 : w.rowIs (B + 2) 3 n (fun i => .int .i64 (M.getD i noCd).en)
  r3 : w.rowIs (B + 3) 3 n (fun i => .int .i64 (M.getD i noCd).rk)
  r4 : w.rowIs (B + 4) 3 n (fun i => .int .i64 (M.getD i noCd).sz)
  r5 : w.rowIs (B + 5) 3 n (fun i => .int .i64 (M.getD i noCd).sh)

theorem Six.grown {w w' : World} {B n g : Nat} {M : List Cd} (h : Six w B n M) (hg : w.grownBy w' (some g)) (hlt : B + 5 < g) : Six w' B n M :=
  ⟨h.r0.of_block (hg.block _ h.r0.lt (by simp; omega)), h.r1.of_block (hg.block _ h.r1.lt (by simp; omega)), h.r2.of_block (hg.block _ h.r2.lt (by simp; omega)),
   h.r3.of_block (hg.block _ h.r3.lt (by simp; omega)), h.r4.of_block (hg.block _ h.r4.lt (by simp; omega)), h.r5.of_block (hg.block _ h.r5.lt (by simp; omega))⟩
theorem Six.alloc {w : World} {B n : Nat} {M : List Cd} (h : Six w B n M) (o : Obj) : Six (w.alloc o) B n M :=
  ⟨h.r0.alloc o, h.r1.alloc o, h.r2.alloc o, h.r3.alloc o, h.r4.alloc o, h.r5.alloc o⟩
theorem Six.drew {w : World} {B n : Nat} {M : List Cd} (h : Six w B n M) : Six w.drew B n M := ⟨h.r0.drew, h.r1.drew, h.r2.drew, h.r3.drew, h.r4.drew, h.r5.drew⟩
theorem Six.cast {w : World} {B n : Nat} {M N : List Cd} (h : Six w B n M) (e : M = N) : Six w B n N := e ▸ h

/-- One place of all six stored, in the text's order. -/
theorem Six.set {w : World} {B n : Nat} {M : List Cd} (h : Six w B n M) (k : Nat) (hM : M.length = n) (hk : k < n) (x : Cd) :
    Six ((((((w.setCell ⟨B, k, none⟩ (.string x.ty)).setCell ⟨B + 1, k, none⟩ (.int .i64 x.st)).setCell ⟨B + 2, k, none⟩ (.int .i64 x.en)).setCell ⟨B + 3, k, none⟩ (.int .i64 x.rk)).setCell ⟨B + 4, k, none⟩ (.int .i64 x.sz)).setCell ⟨B + 5, k, none⟩ (.int .i64 x.sh)) B n (M.set k x) := by
  have e : ∀ i, (M.set k x).getD i noCd = if i = k then x else M.getD i noCd := fun i => getD_set M k i x (by omega)
  have d : ∀ {α : Type} (f : Cd → α) i, f ((M.set k x).getD i noCd) = if i = k then f x else f (M.getD i noCd) := fun f i => by rw [e i]; split <;> rfl
  refine ⟨?_, ?_, ?_, ?_, ?_, ?_⟩
  · exact ((((((h.r0.set k _).setOther (by simp) _).setOther (by simp) _).setOther (by simp) _).setOther (by simp) _).setOther (by simp) _).congr fun i _ => (d (fun c => Value.string c.ty) i).symm
  · exact ((((((h.r1.setOther (by simp) _).set k _).setOther (by simp) _).setOther (by simp) _).setOther (by simp) _).setOther (by simp) _).congr fun i _ => (d (fun c => Value.int .i64 c.st) i).symm
  · exact ((((((h.r2.setOther (by simp) _).setOther (by simp) _).set k _).setOther (by simp) _).setOther (by simp) _).setOther (by simp) _).congr fun i _ => (d (fun c => Value.int .i64 c.en) i).symm
  · exact ((((((h.r3.setOther (by simp) _).setOther (by simp) _).setOther (by simp) _).set k _).setOther (by simp) _).setOther (by simp) _).congr fun i _ => (d (fun c => Value.int .i64 c.rk) i).symm
  · exact ((((((h.r4.setOther (by simp) _).setOther (by simp) _).setOther (by simp) _).setOther (by simp) _).set k _).setOther (by simp) _).congr fun i _ => (d (fun c => Value.int .i64 c.sz) i).symm
  · exact ((((((h.r5.setOther (by simp) _).setOther (by simp) _).setOther (by simp) _).setOther (by simp) _).setOther (by simp) _).set k _).congr fun i _ => (d (fun c => Value.int .i64 c.sh) i).symm

/-- M behind k rounds that lay N over l. -/
def laid (N l : List Cd) (k : Nat) : List Cd := N.take k ++ l.drop k
theorem laid_zero (N l : List Cd) : laid N l 0 = l := by simp [laid]
theorem laid_all (N l : List Cd) (h : N.length = l.length) : laid N l l.length = N := by simp [laid, ← h]
theorem laid_len (N l : List Cd) (k : Nat) (h : N.length = l.length) : (laid N l k).length = l.length := by
  simp [laid]; omega
theorem laid_succ (N l : List Cd) (k : Nat) (h : N.length = l.length) (hk : k < l.length) : (laid N l k).set k (N.getD k noCd) = laid N l (k + 1) := by
  unfold laid
  have hl : (N.take k).length = k := by simp; omega
  rw [List.set_append_right _ _ (by omega), hl, Nat.sub_self, List.drop_eq_getElem_cons hk, List.set_cons_zero, List.take_succ_eq_append_getElem (by omega), List.append_assoc]
  have : N.getD k noCd = N[k]'(by omega) := by simp [List.getD, show k < N.length by omega]
  rw [this]
  rfl

end Go.Proofs.Qxb6621684a
