import Derived.Test.Qxb6621684aIbanSmall
namespace Go.Proofs.Qxb6621684a
open Go.RowKit

theorem Try.info5 : (Try.prog.info? 5).map (fun i => (i.zero, i.size, i.bytes)) = some (some (.int .u8 0), 1, 1) := by kernel_rfl

def lowN (s : ByteArray) : List Int := (nums s).map Ibn.lower
theorem lowN_len (s : ByteArray) : (lowN s).length = s.size := by rw [lowN, List.length_map, nums_len]
theorem lowN_at (s : ByteArray) (k : Nat) (h : k < s.size) : (lowN s).getD k 0 = Ibn.lower ((s[k].toNat : Nat) : Int) := by
  simp [lowN, List.getD, nums_at s k h]
theorem nums_strOf (l : List Int) (h : ∀ c ∈ l, 0 ≤ c ∧ c < 256) : nums (strOfNums l) = l := by
  unfold nums
  rw [strOfNums_data, List.map_map]
  conv => rhs; rw [← List.map_id l]
  refine List.map_congr_left fun c hc => ?_
  obtain ⟨h0, h1⟩ := h c hc
  simp only [Function.comp, id]
  rw [UInt8.toNat_ofNat']
  omega

theorem lower_no {c : Int} (h : ¬ (65 ≤ c ∧ c ≤ 90)) : Ibn.lower c = c := by rw [Ibn.lower, if_neg h]

set_option maxRecDepth 100000 in
set_option maxHeartbeats 1000000 in
/-- 'zzLowered'. -/
theorem lowered_any (s : ByteArray) (hs : s.size ≤ 1100000) (w : World) :
    Calls Try.prog 18 #[.string s] w fun e w' => e = .returned (.string (strOfNums (lowN s))) ∧ Below w.heap.size w w' := by
  have hmk := run_make_row' (P := Try.prog) 41 5 (.int .u8 0) 1 Try.underlying41 Try.info5 rfl .i64 .i64 s.size (by omega) (by omega)
  go_enter Try.func18, Try.ntmps18
  go_wp2
  go_loopw [4] (fun i wr => ∃ k : Nat, k ≤ s.size ∧ i = .int .i64 k ∧ wr.rowIs w.heap.size 5 s.size (fun j => .int .u8 (if j < k then (lowN s).getD j 0 else 0)) ∧ (w.alloc (.cells (madeCells #[.int .u8 0] s.size) 5)).grownBy wr (some w.heap.size)) (fun i _ => s.size - (intOf i).toNat)
  case atStart => exact ⟨0, Nat.zero_le _, rfl, (World.rowIs_made w (.int .u8 0) s.size 5).congr (fun i _ => by simp), World.grownBy.refl _ _⟩
  case round =>
    obtain ⟨k, hk, rfl, hr, hg⟩ := hrel
    by_cases hlt : k < s.size
    · have c0 := hr.cell hlt
      have f0 := hr.frozen k
      have HR : Hid (wr.rowIs w.heap.size 5 s.size (fun j => .int .u8 (if j < k then (lowN s).getD j 0 else 0))) := hr
      have HG : Hid ((w.alloc (.cells (madeCells #[.int .u8 0] s.size) 5)).grownBy wr (some w.heap.size)) := hg
      clear hr hg
      rw [if_neg (by omega)] at c0
      obtain ⟨c, hc⟩ : ∃ c : Nat, c = s[k].toNat := ⟨_, rfl⟩
      have hat := lowN_at s k hlt
      rw [← hc] at hat
      have hfin : ∀ x : Int, Ibn.lower (c : Int) = x → (wr.setCell ⟨w.heap.size, k, none⟩ (.int .u8 x)).rowIs w.heap.size 5 s.size (fun j => .int .u8 (if j < k + 1 then (lowN s).getD j 0 else 0)) := fun x hx => by
        refine (HR.out.set k (.int .u8 x)).congr fun j _ => ?_
        by_cases hj : j = k
        · subst hj
          rw [if_pos rfl, if_pos (by omega), hat, hx]
        · rw [if_neg hj]
          by_cases hj2 : j < k
          · rw [if_pos hj2, if_pos (by omega)]
          · rw [if_neg hj2, if_neg (by omega)]
      have HF : Hid (∀ x : Int, Ibn.lower (c : Int) = x → (wr.setCell ⟨w.heap.size, k, none⟩ (.int .u8 x)).rowIs w.heap.size 5 s.size (fun j => .int .u8 (if j < k + 1 then (lowN s).getD j 0 else 0))) := hfin
      clear hfin hat
      have HC : Hid (c = s[k].toNat) := hc
      clear hc
      by_cases h1 : 65 ≤ ((s[k].toNat : Nat) : Int)
      · by_cases h2 : ((s[k].toNat : Nat) : Int) ≤ 90
        · go_wp2
          exact ⟨⟨k + 1, by omega, by go_num, HF.out _ (by rw [HC.out]; simp [Ibn.lower, h1, h2]), gb_set HG.out _ _⟩, by simp [intOf]; omega⟩
        · have h2' : 90 < ((s[k].toNat : Nat) : Int) := by omega
          go_wp2
          exact ⟨⟨k + 1, by omega, by go_num, HF.out _ (by rw [HC.out]; exact lower_no (by omega)), gb_set HG.out _ _⟩, by simp [intOf]; omega⟩
      · have h1' : ((s[k].toNat : Nat) : Int) < 65 := by omega
        go_wp2
        exact ⟨⟨k + 1, by omega, by go_num, HF.out _ (by rw [HC.out]; exact lower_no (by omega)), gb_set HG.out _ _⟩, by simp [intOf]; omega⟩
    · have hcv := run_convert_bytes_arg (P := Try.prog) wr 41 5 Try.underlying41 Try.underlying5 w.heap.size 0 s.size s.size (lowN s) (lowN_len s) (fun i hi => by rw [Nat.zero_add, hr.cell hi, if_pos (by omega)]) 9 Try.underlying9
      have HG : Hid (Below w.heap.size w wr) := ((Below.refl _ w).alloc (Nat.le_refl _) _).grown hg (by simp) (fun k hk => by simp at hk; omega)
      clear hr hg
      go_wp2
      go_ret
      exact ⟨rfl, HG.out⟩

end Go.Proofs.Qxb6621684a
