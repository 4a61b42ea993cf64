/-
  SIX CELLS A CANDIDATE: how a row of candidates lies in one block. Laws on worlds, outside every walk.
-/
import Derived.Test.Qxb6621684aMergePlain
import Derived.Deep.OwnRows
import Derived.WalkKit
import Derived.Deep.Draws
namespace Go.Proofs.Qxb6621684a
open Go.RowKit

def fld (c : Cd) : Nat → Value
  | 0 => .string c.ty
  | 1 => .int .i64 c.st
  | 2 => .int .i64 c.en
  | 3 => .int .i64 c.rk
  | 4 => .int .i64 c.sz
  | _ => .int .i64 c.sh
def noCd : Cd := ⟨ByteArray.empty, 0, 0, 0, 0, 0⟩
/-- What cell p of a row of candidates holds. -/
def fv (l : List Cd) (p : Nat) : Value := fld (l.getD (p / 6) noCd) (p % 6)
/-- A candidate's cells. -/
def cdCells (c : Cd) : List Value := [.string c.ty, .int .i64 c.st, .int .i64 c.en, .int .i64 c.rk, .int .i64 c.sz, .int .i64 c.sh]

/-- Block b is a row of the candidates l (elements of type e). -/
def Row (w : World) (b : Nat) (e : TypeId) (l : List Cd) : Prop := w.rowIs b e (l.length * 6) (fv l)

theorem getD_set (L : List Cd) (i j : Nat) (c : Cd) (hi : i < L.length) : (L.set i c).getD j noCd = if j = i then c else L.getD j noCd := by
  simp only [List.getD, List.getElem?_set]
  by_cases h : i = j
  · subst h; simp [hi]
  · have h' : ¬ j = i := fun e => h e.symm
    simp [h, h']

/-- The six cells of candidate i. -/
structure At (w : World) (b i : Nat) (c : Cd) : Prop where
  c0 : w.cell? ⟨b, i * 6, none⟩ = some (.string c.ty)
  c1 : w.cell? ⟨b, i * 6 + 1, none⟩ = some (.int .i64 c.st)
  c2 : w.cell? ⟨b, i * 6 + 2, none⟩ = some (.int .i64 c.en)
  c3 : w.cell? ⟨b, i * 6 + 3, none⟩ = some (.int .i64 c.rk)
  c4 : w.cell? ⟨b, i * 6 + 4, none⟩ = some (.int .i64 c.sz)
  c5 : w.cell? ⟨b, i * 6 + 5, none⟩ = some (.int .i64 c.sh)

theorem fv_at (L : List Cd) (i j : Nat) (hj : j < 6) : fv L (i * 6 + j) = fld (L.getD i noCd) j := by
  unfold fv
  rw [show (i * 6 + j) / 6 = i by omega, show (i * 6 + j) % 6 = j by omega]

theorem Row.at {w : World} {b : Nat} {e : TypeId} {L : List Cd} (h : Row w b e L) (i : Nat) (hi : i < L.length) : At w b i (L.getD i noCd) := by
  have g : ∀ j, j < 6 → w.cell? ⟨b, i * 6 + j, none⟩ = some (fld (L.getD i noCd) j) := fun j hj => by
    rw [← fv_at L i j hj]
    exact World.rowIs.cell h (by omega)
  exact ⟨g 0 (by omega), g 1 (by omega), g 2 (by omega), g 3 (by omega), g 4 (by omega), g 5 (by omega)⟩

theorem Row.frozen {w : World} {b : Nat} {e : TypeId} {L : List Cd} (h : Row w b e L) (p : Nat) : w.frozen? ⟨b, p, none⟩ = false := World.rowIs.frozen h p
theorem Row.lt {w : World} {b : Nat} {e : TypeId} {L : List Cd} (h : Row w b e L) : b < w.heap.size := World.rowIs.lt h
theorem Row.of_block {w w' : World} {b : Nat} {e : TypeId} {L : List Cd} (h : Row w b e L) (hb : w'.heap[b]? = w.heap[b]?) : Row w' b e L := World.rowIs.of_block h hb
theorem Row.alloc {w : World} {b : Nat} {e : TypeId} {L : List Cd} (h : Row w b e L) (o : Obj) : Row (w.alloc o) b e L := World.rowIs.alloc h o
theorem Row.drew {w : World} {b : Nat} {e : TypeId} {L : List Cd} (h : Row w b e L) : Row w.drew b e L := h
theorem Row.drewN {w : World} {b : Nat} {e : TypeId} {L : List Cd} (h : Row w b e L) (n : Nat) : Row (w.drewN n) b e L := h
theorem Row.grown {w w' : World} {b : Nat} {e : TypeId} {L : List Cd} {row : Option Nat} (h : Row w b e L) (hg : w.grownBy w' row) (hne : some b ≠ row) : Row w' b e L := h.of_block (hg.block b h.lt hne)

theorem gb_trans {w w1 w2 : World} {row : Option Nat} (h : w.grownBy w1 row) (k : w1.grownBy w2 row) : w.grownBy w2 row :=
  ⟨k.os.trans h.os, k.tape.trans h.tape, k.output.trans h.output, Nat.le_trans h.size k.size, fun i hi hne => (k.block i (Nat.lt_of_lt_of_le hi h.size) hne).trans (h.block i hi hne)⟩
theorem gb_drew {w w1 : World} {row : Option Nat} (h : w.grownBy w1 row) : w.grownBy w1.drew row := ⟨h.os, h.tape, h.output, h.size, h.block⟩
theorem gb_drewN {w w1 : World} {row : Option Nat} (h : w.grownBy w1 row) (n : Nat) : w.grownBy (w1.drewN n) row := ⟨h.os, h.tape, h.output, h.size, h.block⟩
theorem gb_alloc {w w1 : World} {row : Option Nat} (h : w.grownBy w1 row) (o : Obj) : w.grownBy (w1.alloc o) row := gb_trans h (World.grownBy_alloc w1 o row)
theorem gb_set {w w1 : World} {b : Nat} (h : w.grownBy w1 (some b)) (p : Nat) (v : Value) : w.grownBy (w1.setCell ⟨b, p, none⟩ v) (some b) :=
  gb_trans h ⟨rfl, rfl, rfl, by simp, fun i _ hne => Deep.blk_setCell_other _ _ _ _ (fun e => hne (by simp only [Option.some.injEq]; exact e))⟩

/-- One field stored. -/
theorem Row.setField {w : World} {b : Nat} {e : TypeId} {L : List Cd} (h : Row w b e L) (i j : Nat) (hi : i < L.length) (hj : j < 6) (c : Cd) (v : Value)
    (hv : fld c j = v) (ho : ∀ q, q < 6 → q ≠ j → fld c q = fld (L.getD i noCd) q) : Row (w.setCell ⟨b, i * 6 + j, none⟩ v) b e (L.set i c) := by
  unfold Row
  rw [List.length_set]
  refine World.rowIs.congr (World.rowIs.set h (i * 6 + j) v) fun p hp => ?_
  have hp6 : p = (p / 6) * 6 + p % 6 := by omega
  have hm : p % 6 < 6 := by omega
  show (if p = i * 6 + j then v else fv L p) = fv (L.set i c) p
  unfold fv
  rw [getD_set L i (p / 6) c hi]
  by_cases h1 : p / 6 = i
  · rw [if_pos h1]
    by_cases h2 : p % 6 = j
    · rw [if_pos (by omega), h2, hv]
    · rw [if_neg (by omega), ho _ hm h2, h1]
  · rw [if_neg h1, if_neg (by omega)]

theorem Row.set_en {w : World} {b : Nat} {e : TypeId} {L : List Cd} (h : Row w b e L) (i : Nat) (hi : i < L.length) (x : Int) : Row (w.setCell ⟨b, i * 6 + 2, none⟩ (.int .i64 x)) b e (L.set i { L.getD i noCd with en := x }) :=
  h.setField i 2 hi (by omega) _ _ rfl (fun q hq hne => by match q, hq, hne with | 0, _, _ | 1, _, _ | 3, _, _ | 4, _, _ | 5, _, _ => rfl)
theorem Row.set_sz {w : World} {b : Nat} {e : TypeId} {L : List Cd} (h : Row w b e L) (i : Nat) (hi : i < L.length) (x : Int) : Row (w.setCell ⟨b, i * 6 + 4, none⟩ (.int .i64 x)) b e (L.set i { L.getD i noCd with sz := x }) :=
  h.setField i 4 hi (by omega) _ _ rfl (fun q hq hne => by match q, hq, hne with | 0, _, _ | 1, _, _ | 2, _, _ | 3, _, _ | 5, _, _ => rfl)
theorem Row.set_sh {w : World} {b : Nat} {e : TypeId} {L : List Cd} (h : Row w b e L) (i : Nat) (hi : i < L.length) (x : Int) : Row (w.setCell ⟨b, i * 6 + 5, none⟩ (.int .i64 x)) b e (L.set i { L.getD i noCd with sh := x }) :=
  h.setField i 5 hi (by omega) _ _ rfl (fun q hq hne => by
    match q, hq, hne with
    | 0, _, _ | 1, _, _ | 2, _, _ | 3, _, _ | 4, _, _ => rfl
    | q + 5, h1, h2 => omega)
theorem Row.set_rk {w : World} {b : Nat} {e : TypeId} {L : List Cd} (h : Row w b e L) (i : Nat) (hi : i < L.length) (x : Int) : Row (w.setCell ⟨b, i * 6 + 3, none⟩ (.int .i64 x)) b e (L.set i { L.getD i noCd with rk := x }) :=
  h.setField i 3 hi (by omega) _ _ rfl (fun q hq hne => by match q, hq, hne with | 0, _, _ | 1, _, _ | 2, _, _ | 4, _, _ | 5, _, _ => rfl)
theorem Row.set_ty {w : World} {b : Nat} {e : TypeId} {L : List Cd} (h : Row w b e L) (i : Nat) (hi : i < L.length) (x : ByteArray) : Row (w.setCell ⟨b, i * 6, none⟩ (.string x)) b e (L.set i { L.getD i noCd with ty := x }) :=
  h.setField i 0 hi (by omega) _ _ rfl (fun q hq hne => by match q, hq, hne with | 1, _, _ | 2, _, _ | 3, _, _ | 4, _, _ | 5, _, _ => rfl)

/-- A row said as another list. -/
theorem Row.cast {w : World} {b : Nat} {e : TypeId} {L M : List Cd} (h : Row w b e L) (hLM : L = M) : Row w b e M := hLM ▸ h

/-- A whole candidate laid at place q: what 'append' within the room, or a store of a struct, does. -/
theorem Row.setWhole {w : World} {b : Nat} {e : TypeId} {L : List Cd} (h : Row w b e L) (q : Nat) (hq : q < L.length) (c : Cd) (cur : Array Value) (hg : w.heap[b]? = some (.cells cur e (0, 0))) :
    Row (w.setRow b (cur.toList.take (q * 6) ++ cdCells c ++ cur.toList.drop (q * 6 + (cdCells c).length)).toArray) b e (L.set q c) := by
  obtain ⟨cur', hb, hn, hc⟩ := h
  rw [hg] at hb
  simp only [Option.some.injEq, Obj.cells.injEq, and_true] at hb
  subst hb
  have h6 : (cdCells c).length = 6 := rfl
  have hcl : cur.toList.length = L.length * 6 := by simpa using hn
  refine ⟨_, setRow_heap w b cur _ e _ hg, ?_, fun p hp => ?_⟩
  · simp only [List.size_toArray, List.length_append, List.length_take, List.length_drop, h6, hcl, List.length_set]
    omega
  · rw [List.length_set] at hp
    rw [List.getElem?_toArray, List.append_assoc]
    have hold : cur.toList[p]? = some (fv L p) := by simpa using hc p hp
    by_cases h1 : p < q * 6
    · rw [List.getElem?_append_left (by rw [List.length_take]; omega), List.getElem?_take_of_lt h1, hold]
      unfold fv
      rw [getD_set L q _ c hq, if_neg (by omega)]
    · by_cases h2 : p < q * 6 + 6
      · rw [List.getElem?_append_right (by rw [List.length_take]; omega), List.length_take, List.getElem?_append_left (by rw [h6]; omega)]
        have e1 : p - min (q * 6) cur.toList.length = p % 6 := by rw [hcl]; omega
        rw [e1]
        unfold fv
        rw [getD_set L q _ c hq, if_pos (by omega)]
        have hm : p % 6 < 6 := by omega
        match p % 6, hm with
        | 0, _ | 1, _ | 2, _ | 3, _ | 4, _ | 5, _ => rfl
      · rw [List.getElem?_append_right (by rw [List.length_take]; omega), List.length_take, List.getElem?_append_right (by rw [h6]; omega), List.getElem?_drop]
        have e1 : q * 6 + (cdCells c).length + (p - min (q * 6) cur.toList.length - (cdCells c).length) = p := by rw [hcl, h6]; omega
        rw [e1, hold]
        unfold fv
        rw [getD_set L q _ c hq, if_neg (by omega)]

/-- A row that holds L but for candidate j, of which nothing is said. -/
def Near (w : World) (b : Nat) (e : TypeId) (L : List Cd) (j : Nat) : Prop := ∃ f, w.rowIs b e (L.length * 6) f ∧ ∀ p, p / 6 ≠ j → f p = fv L p
theorem Near.of_row {w : World} {b : Nat} {e : TypeId} {L : List Cd} (h : Row w b e L) (j : Nat) : Near w b e L j := ⟨_, h, fun _ _ => rfl⟩
theorem Near.alloc {w : World} {b : Nat} {e : TypeId} {L : List Cd} {j : Nat} (h : Near w b e L j) (o : Obj) : Near (w.alloc o) b e L j := by
  obtain ⟨f, h1, h2⟩ := h
  exact ⟨f, h1.alloc o, h2⟩
theorem Near.drew {w : World} {b : Nat} {e : TypeId} {L : List Cd} {j : Nat} (h : Near w b e L j) : Near w.drew b e L j := h
theorem Near.drewN {w : World} {b : Nat} {e : TypeId} {L : List Cd} {j : Nat} (h : Near w b e L j) (n : Nat) : Near (w.drewN n) b e L j := h
theorem Near.set {w : World} {b : Nat} {e : TypeId} {L : List Cd} {j : Nat} (h : Near w b e L j) (p : Nat) (v : Value) (hp : p / 6 = j) : Near (w.setCell ⟨b, p, none⟩ v) b e L j := by
  obtain ⟨f, h1, h2⟩ := h
  refine ⟨_, h1.set p v, fun q hq => ?_⟩
  rw [if_neg (fun e => hq (by rw [e]; exact hp))]
  exact h2 q hq
theorem Near.row {w : World} {b : Nat} {e : TypeId} {L : List Cd} {j : Nat} (h : Near w b e L j) (hj : j < L.length) {x : Cd} (hx : At w b j x) : Row w b e (L.set j x) := by
  obtain ⟨f, h1, h2⟩ := h
  unfold Row
  rw [List.length_set]
  refine h1.congr fun p hp => ?_
  by_cases hpj : p / 6 = j
  · have hm : p % 6 < 6 := by omega
    have hc := h1.cell hp
    have e1 : p = j * 6 + p % 6 := by omega
    have e2 : fv (L.set j x) p = fld x (p % 6) := by
      unfold fv
      rw [hpj, getD_set L j j x hj, if_pos rfl]
    rw [e2]
    generalize p % 6 = t at e1 hm
    subst e1
    match t, hm with
    | 0, _ => rw [Nat.add_zero, hx.c0] at hc; exact (Option.some.inj hc).symm
    | 1, _ => rw [hx.c1] at hc; exact (Option.some.inj hc).symm
    | 2, _ => rw [hx.c2] at hc; exact (Option.some.inj hc).symm
    | 3, _ => rw [hx.c3] at hc; exact (Option.some.inj hc).symm
    | 4, _ => rw [hx.c4] at hc; exact (Option.some.inj hc).symm
    | 5, _ => rw [hx.c5] at hc; exact (Option.some.inj hc).symm
  · rw [h2 p hpj]
    unfold fv
    rw [getD_set L j _ x hj, if_neg hpj]

/-- 'append(s, c)' WITHIN THE ROOM, s a cut of the row itself. -/
theorem wpList_append_row {P : Program} (w : World) {ops : Array Oper} {rest : List Oper} {o : Oper} {a : Act} {Q : Exit → Act → World → Prop}
    (hg : o.guard = none) (s x : Operand) (t : TypeId) (hop : o.op = Op.call { callee := Callee.builtin Builtin.append, args := #[s, x], argTypes := #[t, t] })
    (e : TypeId) (i : TypeInfo) (h1 : P.underlying t = some (.slice e)) (h2 : P.info? e = some i) (h4 : i.size = 6)
    (g q cap h : Nat) (L : List Cd) (c : Cd) (hs : a.eval s = .slice (some ⟨g, 0, none⟩) q cap) (hx : a.eval x = .slice (some ⟨h, 0, none⟩) 1 1)
    (hrow : Row w g e L) (hq : q < L.length) (hcap : cap = L.length) (hnew : w.heap[h]? = some (.cells (cdCells c).toArray e (0, 0)))
    (hK : ∀ w', Row w' g e (L.set q c) → w.grownBy w' (some g) → w'.heap.size = w.heap.size → wpList P ops Q rest (a.put o.dst (.slice (some ⟨g, 0, none⟩) (q + 1) cap)) w') :
    wpList P ops Q (o :: rest) a w := by
  obtain ⟨cur, hb, hn, hc⟩ := hrow
  have hl : (cdCells c).length = 1 * i.size := by rw [h4]; rfl
  have hnews : ∀ j u, (cdCells c)[j]? = some u → w.cell? ((⟨h, 0, none⟩ : Addr).add j) = some u := by
    intro j u hu
    rw [Addr.add_lit, Nat.zero_add]
    unfold World.cell?
    simp only [hnew]
    simpa using hu
  have h1c : ∀ u ∈ cdCells c, u.oneCell' = true := by
    intro u hu
    simp only [cdCells, List.mem_cons, List.not_mem_nil, or_false] at hu
    rcases hu with rfl | rfl | rfl | rfl | rfl | rfl <;> rfl
  have hfit : q * i.size + (cdCells c).length ≤ cur.size := by rw [h4, hn]; show q * 6 + 6 ≤ _; omega
  have hrun := run_append_room (P := P) w t o.type e i h1 h2 g q cap cur hb ⟨h, 0, none⟩ 1 1 (cdCells c) hl hnews h1c (by omega) hfit
  rw [h4] at hrun
  rw [List.append_assoc] at hrun
  have hR := Row.setWhole (w := w) (b := g) (e := e) (L := L) ⟨cur, hb, hn, hc⟩ q hq c cur hb
  rw [List.append_assoc] at hR
  refine wpList_plain hg fun K hK' => ?_
  unfold Oper.wp
  simp [execOp, hop, resolve, invoke, builtin, hs, hx, hrun, Result.andThen]
  exact hK' _ _ (hK _ hR ⟨rfl, rfl, rfl, by simp, fun k _ hk => setRow_other w g k _ (fun e => hk (by simp [e]))⟩ (by simp))

end Go.Proofs.Qxb6621684a
