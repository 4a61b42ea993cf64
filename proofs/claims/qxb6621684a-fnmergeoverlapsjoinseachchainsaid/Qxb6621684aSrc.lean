/-
  A SLICE OF CANDIDATES THAT IS READ: wherever it lies. Laws on worlds, outside every walk.
-/
import Derived.Test.Qxb6621684aMake
namespace Go.Proofs.Qxb6621684a
open Go.RowKit

/-- The six cells of candidate i, the slice beginning at ⟨b, off⟩. -/
structure AtO (w : World) (b off i : Nat) (c : Cd) : Prop where
  c0 : w.cell? ⟨b, off + i * 6, none⟩ = some (.string c.ty)
  c1 : w.cell? ⟨b, off + i * 6 + 1, none⟩ = some (.int .i64 c.st)
  c2 : w.cell? ⟨b, off + i * 6 + 2, none⟩ = some (.int .i64 c.en)
  c3 : w.cell? ⟨b, off + i * 6 + 3, none⟩ = some (.int .i64 c.rk)
  c4 : w.cell? ⟨b, off + i * 6 + 4, none⟩ = some (.int .i64 c.sz)
  c5 : w.cell? ⟨b, off + i * 6 + 5, none⟩ = some (.int .i64 c.sh)

/-- The slice at address a (whatever it is where l is empty) holds l. -/
def Src (w : World) (a : Option Addr) (l : List Cd) : Prop := ∀ i, i < l.length → ∃ b off, a = some ⟨b, off, none⟩ ∧ AtO w b off i (l.getD i noCd)

theorem AtO.same {w w' : World} {b off i : Nat} {c : Cd} (h : AtO w b off i c) (hb : w'.heap[b]? = w.heap[b]?) : AtO w' b off i c :=
  ⟨(World.cell?_of_block (w := w) (a := ⟨b, _, none⟩) hb).trans h.c0, (World.cell?_of_block (w := w) (a := ⟨b, _, none⟩) hb).trans h.c1, (World.cell?_of_block (w := w) (a := ⟨b, _, none⟩) hb).trans h.c2,
   (World.cell?_of_block (w := w) (a := ⟨b, _, none⟩) hb).trans h.c3, (World.cell?_of_block (w := w) (a := ⟨b, _, none⟩) hb).trans h.c4, (World.cell?_of_block (w := w) (a := ⟨b, _, none⟩) hb).trans h.c5⟩
theorem AtO.lt {w : World} {b off i : Nat} {c : Cd} (h : AtO w b off i c) : b < w.heap.size := World.block_lt_of_cell? w ⟨b, off + i * 6, none⟩ h.c0

/-- What was there is there still. -/
theorem Src.since {w w' : World} {a : Option Addr} {l : List Cd} (h : Src w a l) (hs : w.Since w.heap.size w') : Src w' a l := fun i hi => by
  obtain ⟨b, off, ha, hat⟩ := h i hi
  exact ⟨b, off, ha, hat.same (hs.block b hat.lt)⟩
theorem Src.of_since {B : Nat} {w w' : World} {a : Option Addr} {l : List Cd} (h : Src w a l) (hs : w.Since B w') (hB : ∀ b off, a = some ⟨b, off, none⟩ → b < B) : Src w' a l := fun i hi => by
  obtain ⟨b, off, ha, hat⟩ := h i hi
  exact ⟨b, off, ha, hat.same (hs.block b (hB b off ha))⟩

theorem Row.src {w : World} {b : Nat} {e : TypeId} {L : List Cd} (h : Row w b e L) : Src w (some ⟨b, 0, none⟩) L := fun i hi => by
  have g := h.at i hi
  refine ⟨b, 0, rfl, ?_⟩
  constructor <;> rw [Nat.zero_add]
  · exact g.c0
  · exact g.c1
  · exact g.c2
  · exact g.c3
  · exact g.c4
  · exact g.c5

theorem Src.take {w : World} {a : Option Addr} {l : List Cd} (h : Src w a l) (k : Nat) : Src w a (l.take k) := fun i hi => by
  simp only [List.length_take] at hi
  obtain ⟨b, off, ha, hat⟩ := h i (by omega)
  refine ⟨b, off, ha, ?_⟩
  have : (l.take k).getD i noCd = l.getD i noCd := by simp [List.getD, show i < k by omega]
  rw [this]
  exact hat

/-- 'l[k:]'. -/
theorem Src.drop {w : World} {b off : Nat} {l : List Cd} (h : Src w (some ⟨b, off, none⟩) l) (k : Nat) : Src w (some ⟨b, off + k * 6, none⟩) (l.drop k) := fun i hi => by
  simp only [List.length_drop] at hi
  obtain ⟨b', off', ha, hat⟩ := h (k + i) (by omega)
  simp only [Option.some.injEq, Addr.mk.injEq, and_true] at ha
  obtain ⟨rfl, rfl⟩ := ha
  refine ⟨b, off + k * 6, rfl, ?_⟩
  have e : (l.drop k).getD i noCd = l.getD (k + i) noCd := by simp [List.getD]
  rw [e]
  have e2 : off + (k + i) * 6 = off + k * 6 + i * 6 := by omega
  obtain ⟨h0, h1, h2, h3, h4, h5⟩ := hat
  rw [e2] at h0 h1 h2 h3 h4 h5
  exact ⟨h0, h1, h2, h3, h4, h5⟩

theorem Src.drewN {w : World} {a : Option Addr} {l : List Cd} (h : Src w a l) (n : Nat) : Src (w.drewN n) a l := fun i hi => by
  obtain ⟨b, off, ha, hat⟩ := h i hi
  exact ⟨b, off, ha, hat.same rfl⟩
theorem Src.nil (w : World) (a : Option Addr) : Src w a [] := fun i hi => by simp at hi

/-- Six rows as make lays them. -/
theorem six_made (w : World) (n : Nat) : Six ((((((w.alloc (.cells (madeCells #[.string ByteArray.empty] n) 9)).alloc (.cells (madeCells #[.int .i64 0] n) 3)).alloc (.cells (madeCells #[.int .i64 0] n) 3)).alloc (.cells (madeCells #[.int .i64 0] n) 3)).alloc (.cells (madeCells #[.int .i64 0] n) 3)).alloc (.cells (madeCells #[.int .i64 0] n) 3)) w.heap.size n (List.replicate n noCd) := by
  have z : ∀ i, (List.replicate n noCd).getD i noCd = noCd := fun i => by
    simp only [List.getD, List.getElem?_replicate]
    split <;> rfl
  have s1 : ∀ (w : World) o, (w.alloc o).heap.size = w.heap.size + 1 := fun w o => by simp
  refine ⟨?_, ?_, ?_, ?_, ?_, ?_⟩
  · exact ((((((World.rowIs_made w _ n 9).alloc _).alloc _).alloc _).alloc _).alloc _).congr fun i _ => by rw [z]; rfl
  · have h := World.rowIs_made (w.alloc (.cells (madeCells #[.string ByteArray.empty] n) 9)) (.int .i64 0) n 3
    rw [s1] at h
    exact ((((h.alloc _).alloc _).alloc _).alloc _).congr fun i _ => by rw [z]; rfl
  · have h := World.rowIs_made ((w.alloc (.cells (madeCells #[.string ByteArray.empty] n) 9)).alloc (.cells (madeCells #[.int .i64 0] n) 3)) (.int .i64 0) n 3
    rw [s1, s1] at h
    exact (((h.alloc _).alloc _).alloc _).congr fun i _ => by rw [z]; rfl
  · have h := World.rowIs_made (((w.alloc (.cells (madeCells #[.string ByteArray.empty] n) 9)).alloc (.cells (madeCells #[.int .i64 0] n) 3)).alloc (.cells (madeCells #[.int .i64 0] n) 3)) (.int .i64 0) n 3
    rw [s1, s1, s1] at h
    exact ((h.alloc _).alloc _).congr fun i _ => by rw [z]; rfl
  · have h := World.rowIs_made ((((w.alloc (.cells (madeCells #[.string ByteArray.empty] n) 9)).alloc (.cells (madeCells #[.int .i64 0] n) 3)).alloc (.cells (madeCells #[.int .i64 0] n) 3)).alloc (.cells (madeCells #[.int .i64 0] n) 3)) (.int .i64 0) n 3
    rw [s1, s1, s1, s1] at h
    exact (h.alloc _).congr fun i _ => by rw [z]; rfl
  · have h := World.rowIs_made (((((w.alloc (.cells (madeCells #[.string ByteArray.empty] n) 9)).alloc (.cells (madeCells #[.int .i64 0] n) 3)).alloc (.cells (madeCells #[.int .i64 0] n) 3)).alloc (.cells (madeCells #[.int .i64 0] n) 3)).alloc (.cells (madeCells #[.int .i64 0] n) 3)) (.int .i64 0) n 3
    rw [s1, s1, s1, s1, s1] at h
    exact h.congr fun i _ => by rw [z]; rfl

end Go.Proofs.Qxb6621684a
