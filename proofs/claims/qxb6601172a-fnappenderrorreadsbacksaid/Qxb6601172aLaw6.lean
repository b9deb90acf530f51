import Derived.Test.Qxb6601172aIdem
namespace Go.Proofs.Qxb6601172a
open Go.ChangeShapes Go.WideShapes Go.ChangeAt Go.RowKit

theorem law6_bytes_yes (a : Option Addr) (n c : Nat) (s : ByteArray) (w : World) (h : n + s.size ≤ 1048576) :
    Calls Try.prog 15 #[.slice a n c, .string s] w fun e w' => e = .returned (.bool true) ∧ w' = w := by
  go_enter Try.func15, Try.ntmps15
  go_wp2
  go_ret
  exact ⟨rfl, rfl⟩
theorem law6_bytes_no (a : Option Addr) (n c : Nat) (s : ByteArray) (w : World) (hn : n ≤ maxLen) (hs : s.size ≤ maxLen) (h : 1048576 < n + s.size) :
    Calls Try.prog 15 #[.slice a n c, .string s] w fun e w' => e = .returned (.bool false) ∧ w' = w := by
  unfold maxLen at hn hs
  by_cases h1 : 1048576 < n
  · go_enter Try.func15, Try.ntmps15
    go_wp2
    go_ret
    exact ⟨rfl, rfl⟩
  · by_cases h2 : 1048576 < s.size
    · go_enter Try.func15, Try.ntmps15
      go_wp2
      go_ret
      exact ⟨rfl, rfl⟩
    · go_enter Try.func15, Try.ntmps15
      go_wp2
      go_ret
      exact ⟨rfl, rfl⟩

theorem law6_guard (a : Option Addr) (n c : Nat) (s : ByteArray) (w : World) (hn : n ≤ maxLen) (hs : s.size ≤ maxLen) (h : 1048576 < n + s.size ∨ 524288 < n ∨ 524288 < s.size) :
    Calls Try.prog 6 #[.slice a n c, .string s] w fun e w' => e = .returned (.bool true) ∧ Below w.heap.size w w' := by
  by_cases h0 : 1048576 < n + s.size
  · go_enter Try.func6, Try.ntmps6
    go_wp2_with (go_at_call 15; refine (law6_bytes_no a n c s _ hn hs h0).mono ?_; rintro e w' ⟨rfl, rfl⟩)
    go_ret
    exact ⟨rfl, Below.refl _ _⟩
  · have h0' : n + s.size ≤ 1048576 := by omega
    clear h0 hn hs
    by_cases h1 : 524288 < n
    · clear h
      go_enter Try.func6, Try.ntmps6
      go_wp2_with (go_at_call 15; refine (law6_bytes_yes a n c s _ h0').mono ?_; rintro e w' ⟨rfl, rfl⟩)
      go_ret
      exact ⟨rfl, Below.refl _ _⟩
    · have h2 : 524288 < s.size := by omega
      clear h
      go_enter Try.func6, Try.ntmps6
      go_wp2_with (go_at_call 15; refine (law6_bytes_yes a n c s _ h0').mono ?_; rintro e w' ⟨rfl, rfl⟩)
      go_ret
      exact ⟨rfl, Below.refl _ _⟩

/-- what was made first and what was made later lie apart -/
theorem owns_apart {w1 w2 : World} {B n n' c c' : Nat} {a1 a2 : Option Addr} {f f' : Nat → Int} (h1 : Owns w1 B (.slice a1 n c) n f) (h2 : Owns w2 w1.heap.size (.slice a2 n' c') n' f') :
    (Value.slice a2 n' c').ownBlock = none ∨ (Value.slice a2 n' c').ownBlock ≠ (Value.slice a1 n c).ownBlock := by
  cases a2 with
  | none => exact .inl rfl
  | some x =>
    refine .inr fun e => ?_
    have e2 := (h2.lt x.block rfl).1
    have e1 := (h1.lt x.block (e.symm.trans rfl)).2
    omega
theorem sb_at (s : ByteArray) (k : Nat) (h : k < s.size) : sb s k = ((s[k]'h).toNat : Int) := by unfold sb; rw [dif_pos h]

set_option maxHeartbeats 2000000 in
theorem law6_main (a : Option Addr) (n c : Nat) (f : Nat → Int) (s : ByteArray) (w : World) (hB : IsB w a n c f) (hn : n ≤ 524288) (hs : s.size ≤ 524288) :
    Calls Try.prog 6 #[.slice a n c, .string s] w fun e w' => e = .returned (.bool true) ∧ Below w.heap.size w w' := by
  have HBB := hide hB
  clear hB
  go_enter Try.func6, Try.ntmps6
  go_wp2_with (go_at_call 15; refine (law6_bytes_yes a n c s _ (by omega)).mono ?_; rintro e w' ⟨rfl, rfl⟩)
  refine (clone_any a n c f _ (by omega) HBB.out).mono ?_
  rintro e w1 ⟨a1, rfl, ho1, hb1⟩
  have HO1 := hide ho1
  have HB1 := hide hb1
  have hz1 := hb1.size
  clear ho1 hb1
  go_wp2_with fail
  refine (clone_any a1 n n f _ (by omega) HO1.out.isB).mono ?_
  rintro e w2 ⟨a2, rfl, ho2, hb2⟩
  have hz2 := hb2.size
  have hdst := HO1.out.kept ⟨hb2.os, hb2.tape, hb2.output, hb2.size, fun k hk _ => hb2.block k hk⟩ (row := none) (by cases a1 <;> simp [Value.ownBlock])
  have HO2 := hide ho2
  have HD := hide hdst
  have HB2 := hide (HB1.out.trans (hb2.mono hz1))
  clear ho2 hb2 hdst
  go_wp2_with fail
  refine (zzline_any a1 n n f s _ _ HD.out (by omega) (by omega)).mono ?_
  rintro e w3 ⟨a3, c3, rfl, ho3, hg3, hn3⟩
  have hbef := HO2.out.kept hg3 (owns_apart HO1.out HO2.out)
  obtain ⟨g, rfl⟩ := ho3.some (by omega)
  have hck := hide (fun k (hk : k < n + s.size + 2) => ho3.cell hk)
  have HBF := hide hbef
  have HB3 := hide (HB2.out.grown hg3 (by omega) (fun k hk => (HD.out.lt k hk).1))
  clear ho3 hg3 hn3 hbef
  go_wp2_with fail
  go_loopw [9] (fun i wr => ∃ k : Nat, k ≤ n ∧ i = .int .i64 k ∧ Below w3.heap.size w3 wr) (fun i _ => n - (intOf i).toNat)
  case atStart => exact ⟨0, Nat.zero_le _, rfl, Below.refl _ _⟩
  case round =>
    obtain ⟨k, hk, rfl, hbel⟩ := hrel
    by_cases hlt : k < n
    · obtain ⟨g1, rfl⟩ := Owns.some HBF.out (by omega)
      have g1c : wr.cell? ⟨g1, k, none⟩ = some (.int .u8 (f k)) := by
        have h0 := Owns.cell HBF.out hlt
        rw [hbel.cell (by exact block_lt_of_cell h0)]; exact h0
      have gc : wr.cell? ⟨g, k, none⟩ = some (.int .u8 (f k)) := by
        have h0 := hck.out k (by omega)
        rw [line_before n f s k hlt] at h0
        rw [hbel.cell (by exact block_lt_of_cell h0)]; exact h0
      have hlt' : (k : Int) < (n : Int) := by omega
      have hlt2 : (k : Int) < ((n + s.size + 2 : Nat) : Int) := by omega
      have hk0 : (0 : Int) ≤ (k : Int) := by omega
      have HB := hide hbel
      clear hbel
      go_wp2
      go_quiet (fail)
      go_wp2
      go_roundw
      case rel => exact ⟨k + 1, by omega, by go_num, below_drewN HB.out nq⟩
      case measure => simp [intOf]; omega
    · have HB := hide hbel
      clear hbel
      go_wp2
      go_loopw [10] (fun i wx => ∃ k : Nat, k ≤ s.size ∧ i = .int .i64 k ∧ Below w3.heap.size w3 wx) (fun i _ => s.size - (intOf i).toNat)
      case atStart => exact ⟨0, Nat.zero_le _, rfl, HB.out⟩
      case round =>
        clear HB
        obtain ⟨j, hj, rfl, hbel⟩ := hrel
        by_cases hjt : j < s.size
        · have gc : wr.cell? ⟨g, n + j, none⟩ = some (.int .u8 (clean ((s[j]'hjt).toNat : Int))) := by
            have h0 := hck.out (n + j) (by omega)
            rw [line_in n f s j hjt, sb_at s j hjt] at h0
            rw [hbel.cell (by exact block_lt_of_cell h0)]; exact h0
          have hjt' : (j : Int) < (s.size : Int) := by omega
          have hjt2 : (n : Int) + (j : Int) < ((n + s.size + 2 : Nat) : Int) := by omega
          have hj0 : (0 : Int) ≤ (n : Int) + (j : Int) := by omega
          have HB := hide hbel
          clear hbel
          go_wp2
          go_quiet ((go_at_call 18; exact Calls.quiet_of_same (clean_any _ _)))
          go_wp2
          go_roundw
          case rel => exact ⟨j + 1, by omega, by go_num, below_drewN HB.out nq⟩
          case measure => simp [intOf]; omega
        · have HB := hide hbel
          have gc : wr.cell? ⟨g, n + s.size, none⟩ = some (.int .u8 13) := by
            have h0 := hck.out (n + s.size) (by omega)
            rw [line_cr n f s] at h0
            rw [hbel.cell (by exact block_lt_of_cell h0)]; exact h0
          have gd : wr.cell? ⟨g, n + s.size + 1, none⟩ = some (.int .u8 10) := by
            have h0 := hck.out (n + s.size + 1) (by omega)
            rw [line_lf n f s] at h0
            rw [hbel.cell (by exact block_lt_of_cell h0)]; exact h0
          have HBx := hide (HB3.out.trans (HB.out.mono (by have := HB3.out.size; omega)))
          clear hbel
          go_wp2
          go_ret
          exact ⟨rfl, HBx.out⟩

end Go.Proofs.Qxb6601172a
