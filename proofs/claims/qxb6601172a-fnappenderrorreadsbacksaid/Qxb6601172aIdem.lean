import Derived.Test.Qxb6601172aEq
namespace Go.Proofs.Qxb6601172a
open Go.ChangeShapes Go.WideShapes Go.ChangeAt Go.RowKit

theorem idem_bytes_yes (a : Option Addr) (n c : Nat) (s : ByteArray) (w : World) (h : n + s.size ≤ 1048576) :
    Calls Try.prog 19 #[.slice a n c, .string s] w fun e w' => e = .returned (.bool true) ∧ w' = w := by
  go_enter Try.func19, Try.ntmps19
  go_wp2
  go_ret
  exact ⟨rfl, rfl⟩
theorem idem_bytes_no (a : Option Addr) (n c : Nat) (s : ByteArray) (w : World) (hn : n ≤ maxLen) (hs : s.size ≤ maxLen) (h : 1048576 < n + s.size) :
    Calls Try.prog 19 #[.slice a n c, .string s] w fun e w' => e = .returned (.bool false) ∧ w' = w := by
  unfold maxLen at hn hs
  by_cases h1 : 1048576 < n
  · go_enter Try.func19, Try.ntmps19
    go_wp2
    go_ret
    exact ⟨rfl, rfl⟩
  · by_cases h2 : 1048576 < s.size
    · go_enter Try.func19, Try.ntmps19
      go_wp2
      go_ret
      exact ⟨rfl, rfl⟩
    · go_enter Try.func19, Try.ntmps19
      go_wp2
      go_ret
      exact ⟨rfl, rfl⟩

theorem idem_guard (a : Option Addr) (n c : Nat) (s : ByteArray) (w : World) (hn : n ≤ maxLen) (hs : s.size ≤ maxLen) (h : 1048576 < n + s.size ∨ 524288 < n ∨ 524288 < s.size) :
    Calls Try.prog 7 #[.slice a n c, .string s] w fun e w' => e = .returned (.bool true) ∧ Below w.heap.size w w' := by
  by_cases h0 : 1048576 < n + s.size
  · go_enter Try.func7, Try.ntmps7
    go_wp2_with (go_at_call 19; refine (idem_bytes_no a n c s _ hn hs h0).mono ?_; rintro e w' ⟨rfl, rfl⟩)
    go_ret
    exact ⟨rfl, Below.refl _ _⟩
  · have h0' : n + s.size ≤ 1048576 := by omega
    clear h0 hn hs
    by_cases h1 : 524288 < n
    · clear h
      go_enter Try.func7, Try.ntmps7
      go_wp2_with (go_at_call 19; refine (idem_bytes_yes a n c s _ h0').mono ?_; rintro e w' ⟨rfl, rfl⟩)
      go_ret
      exact ⟨rfl, Below.refl _ _⟩
    · have h2 : 524288 < s.size := by omega
      clear h
      go_enter Try.func7, Try.ntmps7
      go_wp2_with (go_at_call 19; refine (idem_bytes_yes a n c s _ h0').mono ?_; rintro e w' ⟨rfl, rfl⟩)
      go_ret
      exact ⟨rfl, Below.refl _ _⟩

/-! ### cuts of a slice of the call's own -/
theorem elem22 : Try.prog.elem 22 = 5 := by kernel_rfl
theorem under22 : Try.prog.underlying 22 = some (.slice (Try.prog.elem 22)) := by kernel_rfl
theorem cut_lh (g n c l h : Nat) (hl : l ≤ h) (hh : h ≤ c) (hc : l < c) (w : World) :
    (Instr.slice 22 (.slice (some ⟨g, 0, none⟩) n c) (some (.int .i64 (l : Int))) (some (.int .i64 (h : Int))) none).run Try.prog w = .ok (.slice (some ⟨g, l, none⟩) (h - l) (c - l)) w := by
  rw [run_slice_lh w 22 (some ⟨g, 0, none⟩) n c under22 .i64 .i64 (l : Int) (h : Int) (by omega) (by omega) (by omega), elem22, size5]
  simp only [Result.andThen, sliced, Int.toNat_natCast]
  rw [if_neg (by omega)]
  simp [add_plain]
theorem cut_l (g n c l : Nat) (hl : l ≤ n) (hc : l < c) (w : World) :
    (Instr.slice 22 (.slice (some ⟨g, 0, none⟩) n c) (some (.int .i64 (l : Int))) none none).run Try.prog w = .ok (.slice (some ⟨g, l, none⟩) (n - l) (c - l)) w := by
  rw [run_slice_l w 22 (some ⟨g, 0, none⟩) n c under22 .i64 (l : Int) (by omega) (by omega), elem22, size5]
  simp only [Result.andThen, sliced, Int.toNat_natCast]
  rw [if_neg (by omega)]
  simp [add_plain]

theorem clean_clean (z : Int) : clean (clean z) = clean z := by
  by_cases h : z = 13 ∨ z = 10
  · rw [clean_break h]; rfl
  · rw [clean_other h, clean_other h]
theorem clean_bd {z : Int} (h : 0 ≤ z ∧ z ≤ 255) : 0 ≤ clean z ∧ clean z ≤ 255 := by
  unfold clean; split <;> omega

theorem Owns.cap {w : World} {base g n c : Nat} {F : Nat → Int} (h : Owns w base (.slice (Option.some ⟨g, 0, none⟩) n c) n F) : n ≤ c := by
  rcases h.2 with ⟨h1, _⟩ | ⟨g', cap, cur, hv, _, _, hnc, _⟩
  · cases h1
  · injection hv with _ _ e3
    subst e3; exact hnc

theorem line_in (n : Nat) (f : Nat → Int) (s : ByteArray) (k : Nat) (hk : k < s.size) : lineOf n f s (n + k) = clean (sb s k) := by
  unfold lineOf
  rw [if_neg (by omega), if_pos (by omega), Nat.add_sub_cancel_left]
theorem line_cr (n : Nat) (f : Nat → Int) (s : ByteArray) : lineOf n f s (n + s.size) = 13 := by
  unfold lineOf
  rw [if_neg (by omega), if_neg (by omega), if_pos rfl]
theorem line_lf (n : Nat) (f : Nat → Int) (s : ByteArray) : lineOf n f s (n + s.size + 1) = 10 := by
  unfold lineOf
  rw [if_neg (by omega), if_neg (by omega), if_neg (by omega)]
theorem line_before (n : Nat) (f : Nat → Int) (s : ByteArray) (k : Nat) (hk : k < n) : lineOf n f s k = f k := by
  unfold lineOf
  rw [if_pos hk]
/-- cleaning what is clean turns nothing -/
theorem line_again (n : Nat) (f h : Nat → Int) (s t : ByteArray) (ht : t.size = s.size) (hb : ∀ k, k < s.size → sb t k = lineOf n f s (n + k)) (k : Nat) (hk : k < s.size + 2) :
    lineOf 0 h t k = lineOf n f s (n + k) := by
  by_cases h1 : k < s.size
  · have := line_in 0 h t k (by omega)
    rw [Nat.zero_add] at this
    rw [this, hb k h1, line_in n f s k h1, clean_clean]
  · by_cases h2 : k = s.size
    · subst h2
      have := line_cr 0 h t
      rw [Nat.zero_add, ht] at this
      rw [this, line_cr]
    · obtain rfl : k = s.size + 1 := by omega
      have := line_lf 0 h t
      rw [Nat.zero_add, ht] at this
      rw [this, ← Nat.add_assoc, line_lf]

set_option maxHeartbeats 1000000 in
theorem idem_main (a : Option Addr) (n c : Nat) (f : Nat → Int) (s : ByteArray) (w : World) (hB : IsB w a n c f) (hn : n ≤ 524288) (hs : s.size ≤ 524288) :
    Calls Try.prog 7 #[.slice a n c, .string s] w fun e w' => e = .returned (.bool true) ∧ Below w.heap.size w w' := by
  have HBB := hide hB
  clear hB
  go_enter Try.func7, Try.ntmps7
  go_wp2_with (go_at_call 19; refine (idem_bytes_yes a n c s _ (by omega)).mono ?_; rintro e w' ⟨rfl, rfl⟩)
  refine (clone_any a n c f _ (by omega) HBB.out).mono ?_
  rintro e w1 ⟨a1, rfl, ho1, hb1⟩
  have HO1 := hide ho1
  have HB1 := hide hb1
  have hz1 := hb1.size
  clear ho1 hb1
  go_wp2_with fail
  refine (zzline_any a1 n n f s _ _ HO1.out hz1 (by omega)).mono ?_
  rintro e w2 ⟨a2, c2, rfl, ho2, hg2, hn2⟩
  obtain ⟨g, rfl⟩ := ho2.some (by omega)
  have hc2 := ho2.cap
  have hck := hide (fun k (hk : k < n + s.size + 2) => ho2.cell hk)
  have HO2 := hide ho2
  have HG2 := hide hg2
  clear ho2 hg2 hn2
  have hcl := cut_l g (n + s.size + 2) c2 n (by omega) (by omega)
  have hclh := cut_lh g (n + s.size + 2) c2 n (n + s.size) (by omega) (by omega) (by omega)
  have hlb : ∀ k, k < s.size → 0 ≤ lineOf n f s (n + k) ∧ lineOf n f s (n + k) ≤ 255 := fun k hk => by rw [line_in n f s k hk]; exact clean_bd (sb_bd _ _)
  obtain ⟨t, ht1, ht2, hcv⟩ := to_str g n s.size (fun k => lineOf n f s (n + k)) w2 hlb (fun k hk => hck.out (n + k) (by omega))
  have HT1 := hide ht1
  have HT2 := hide ht2
  clear ht1 ht2 hlb
  go_wp2_with fail
  refine (zzline_any none 0 0 (fun _ => 0) t _ _ (owns_nil w2 w2.heap.size _) (Nat.le_refl _) (by rw [HT1.out]; omega)).mono ?_
  rintro e w3 ⟨a3, c3, rfl, ho3, hg3, hn3⟩
  obtain ⟨g3, rfl⟩ := ho3.some (by omega)
  have e3 : 0 + t.size + 2 = s.size + 2 := by rw [HT1.out]; omega
  rw [e3] at ho3
  have hck3 := hide (fun k (hk : k < s.size + 2) => ho3.cell hk)
  have HG3 := hide hg3
  rw [e3]
  clear e3 ho3 hg3 hn3
  go_wp2_with fail
  rw [show n + s.size + 2 - n = s.size + 2 by omega]
  have hgs := HG2.out.size
  have hgs3 := HG3.out.size
  refine (equal_yes g3 0 c3 g n (c2 - n) (s.size + 2) (fun k => lineOf 0 (fun _ => 0) t k) (fun k => lineOf n f s (n + k)) w3 (by omega) (fun k hk => by rw [Nat.zero_add]; exact hck3.out k hk) (fun k hk => HG3.out.cell (hck.out (n + k) (by omega)) (by simp [Value.ownBlock])) (line_again n f _ s t HT1.out HT2.out)).mono ?_
  rintro e w4 ⟨rfl, hb4⟩
  have HB2 := HB1.out.grown HG2.out hz1 (fun k hk => (HO1.out.lt k hk).1)
  have HB3 := HB2.grown HG3.out (by omega) (fun k hk => by cases hk)
  have HB4 := hide (HB3.trans (hb4.mono (by omega)))
  clear hb4 HB2 HB3
  go_wp2
  go_ret
  exact ⟨rfl, HB4.out⟩

end Go.Proofs.Qxb6601172a
