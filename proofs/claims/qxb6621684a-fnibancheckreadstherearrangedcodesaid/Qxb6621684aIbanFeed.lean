import Derived.Test.Qxb6621684aIbanAdd
namespace Go.Proofs.Qxb6621684a
open Go.RowKit

theorem below_drewN {B : Nat} {w w' : World} (h : Below B w w') (n : Nat) : Below B w (w'.drewN n) := ⟨h.os, h.tape, h.output, h.size, h.block⟩

set_option maxRecDepth 100000 in
set_option maxHeartbeats 1000000 in
/-- 'ZZIbanAdd'. -/
theorem zzadd_any (s : Ib) (c : Int) (hs : Ibn.Fine s) (hl : s.ln ≤ 2000000) (hc : Ibn.Al c) (t : Ib) (ht : t = Ibn.add s c) (w : World) :
    Calls Try.prog 27 #[.int .i64 s.ln, .int .i64 s.head, .int .i64 s.hs, .int .i64 s.rest, .bool s.up, .bool s.low, .int .u8 c] w fun e w' =>
      e = .returned (.tuple #[.int .i64 t.ln, .int .i64 t.head, .int .i64 t.hs, .int .i64 t.rest, .bool t.up, .bool t.low]) ∧ Below w.heap.size w w' := by
  have HF : Hid (Ibn.Fine s) := hs
  have HL : Hid (Ibn.Al c) := hc
  have HT : Hid (t = Ibn.add s c) := ht
  clear hs hc ht
  go_enter Try.func27, Try.ntmps27
  go_wp2_with fail
  refine (add_any w.heap.size s c HF.out hl HL.out _ ?h ?fr).mono ?_
  case h => constructor <;> simp [go_sem]
  case fr => intro p; simp [go_sem]
  rintro e w1 ⟨rfl, hat, hg⟩
  rw [← HT.out] at hat
  obtain ⟨c0, c1, c2, c3, c4, c5⟩ := hat
  have HG : Hid (Below w.heap.size w w1) := ((Below.refl _ w).alloc (Nat.le_refl _) _).grown hg (by simp) (fun k hk => by simp at hk; omega)
  clear hg
  go_wp2_with fail
  go_quiet (fail)
  go_wp2
  exact bodyPost_ret (v := .tuple #[.int .i64 t.ln, .int .i64 t.head, .int .i64 t.hs, .int .i64 t.rest, .bool t.up, .bool t.low]) (by simp [results, Try.results27, go_sem]) rfl ⟨rfl, below_drewN HG.out _⟩

/-- A string's bytes as numbers. -/
def nums (s : ByteArray) : List Int := s.data.toList.map fun c => (c.toNat : Int)
theorem nums_len (s : ByteArray) : (nums s).length = s.size := by
  rw [nums, List.length_map, Array.length_toList]; rfl
theorem nums_at (s : ByteArray) (k : Nat) (h : k < s.size) : (nums s)[k]? = some ((s[k].toNat : Nat) : Int) := by
  have h' : k < s.data.toList.length := by rw [Array.length_toList]; exact h
  simp only [nums, List.getElem?_map, List.getElem?_eq_getElem h', Option.map_some]
  rfl
theorem nums_take (s : ByteArray) (k : Nat) (h : k < s.size) : (nums s).take (k + 1) = (nums s).take k ++ [((s[k].toNat : Nat) : Int)] := by
  have h1 := nums_at s k h
  obtain ⟨h2, h3⟩ := List.getElem?_eq_some_iff.1 h1
  rw [List.take_succ_eq_append_getElem h2, h3]

set_option maxRecDepth 100000 in
set_option maxHeartbeats 1000000 in
/-- 'zzIbanFeed', of letters and digits alone. -/
theorem zzfeed_any (s : ByteArray) (hs : s.size ≤ 1100000) (hal : ∀ c ∈ nums s, Ibn.Al c) (t : Ib) (ht : t = Ibn.feed (nums s)) (w : World) :
    Calls Try.prog 13 #[.string s] w fun e w' =>
      e = .returned (.tuple #[.int .i64 t.ln, .int .i64 t.head, .int .i64 t.hs, .int .i64 t.rest, .bool t.up, .bool t.low]) ∧ Below w.heap.size w w' := by
  have HL : Hid (∀ c ∈ nums s, Ibn.Al c) := hal
  have HT : Hid (t = Ibn.feed (nums s)) := ht
  clear hal ht
  go_enter Try.func13, Try.ntmps13
  go_wp2
  go_loopw [8, 9, 10, 11, 12, 13, 14] (fun a b c d e f i wr => ∃ (k : Nat) (r : Ib), k ≤ s.size ∧ i = .int .i64 k ∧ r = Ibn.feed ((nums s).take k) ∧ a = .int .i64 r.ln ∧ b = .int .i64 r.head ∧ c = .int .i64 r.hs ∧ d = .int .i64 r.rest ∧ e = .bool r.up ∧ f = .bool r.low ∧ Below w.heap.size w wr) (fun _ _ _ _ _ _ i _ => s.size - (intOf i).toNat)
  case atStart => exact ⟨0, Ibn.zero, Nat.zero_le _, rfl, rfl, rfl, rfl, rfl, rfl, rfl, rfl, Below.refl _ _⟩
  case round =>
    obtain ⟨k, r, hk, rfl, hr, rfl, rfl, rfl, rfl, rfl, rfl, hb⟩ := hrel
    have HB : Hid (Below w.heap.size w wr) := hb
    have HR : Hid (r = Ibn.feed ((nums s).take k)) := hr
    clear hb hr
    by_cases hlt : k < s.size
    · obtain ⟨r2, hr2⟩ : ∃ r2, r2 = Ibn.add r ((s[k].toNat : Nat) : Int) := ⟨_, rfl⟩
      have hc : Ibn.Al ((s[k].toNat : Nat) : Int) := HL.out _ (List.mem_of_getElem? (nums_at s k hlt))
      have hf : Ibn.Fine r := by rw [HR.out]; exact Ibn.feed_fine _ (fun c hc => HL.out c (List.mem_of_mem_take hc))
      have hln : r.ln ≤ 2000000 := by rw [HR.out, Ibn.feed_ln, List.length_take, nums_len]; omega
      have HC := zzadd_any r _ hf hln hc r2 hr2
      have HR2 : Hid (r2 = Ibn.feed ((nums s).take (k + 1))) := by
        show r2 = _
        rw [nums_take s k hlt, Ibn.feed_snoc, ← HR.out, hr2]
      have HCH : Hid (∀ w : World, Calls Try.prog 27 #[.int .i64 r.ln, .int .i64 r.head, .int .i64 r.hs, .int .i64 r.rest, .bool r.up, .bool r.low, .int .u8 ((s[k].toNat : Nat) : Int)] w fun e w' => e = .returned (.tuple #[.int .i64 r2.ln, .int .i64 r2.head, .int .i64 r2.hs, .int .i64 r2.rest, .bool r2.up, .bool r2.low]) ∧ Below w.heap.size w w') := HC
      clear HC hr2 hc hf
      go_wp2_with fail
      refine (HCH.out _).mono ?_
      rintro e w2 ⟨rfl, hb2⟩
      have HB2 : Hid (Below w.heap.size w w2) := HB.out.trans (hb2.mono HB.out.size)
      clear hb2
      go_wp2
      exact ⟨⟨k + 1, r2, by omega, by go_num, HR2.out, rfl, rfl, rfl, rfl, rfl, rfl, HB2.out⟩, by simp [intOf]; omega⟩
    · have e : r = t := by
        rw [HR.out, HT.out, List.take_of_length_le (by rw [nums_len]; omega)]
      subst e
      go_wp2
      exact bodyPost_ret (v := .tuple #[.int .i64 r.ln, .int .i64 r.head, .int .i64 r.hs, .int .i64 r.rest, .bool r.up, .bool r.low]) (by simp [results, Try.results13, go_sem]) rfl ⟨rfl, HB.out⟩

end Go.Proofs.Qxb6621684a
