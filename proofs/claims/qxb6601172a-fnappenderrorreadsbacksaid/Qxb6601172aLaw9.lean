import Derived.Test.Qxb6601172aErr
namespace Go.Proofs.Qxb6601172a
open Go.ChangeShapes Go.WideShapes Go.ChangeAt Go.RowKit

theorem rb_bytes_yes (a : Option Addr) (n c : Nat) (s t : ByteArray) (w : World) (h : n + s.size + t.size ≤ 1048576) :
    Calls Try.prog 23 #[.slice a n c, .string s, .string t] w fun e w' => e = .returned (.bool true) ∧ w' = w := by
  go_enter Try.func23, Try.ntmps23
  go_wp2
  go_ret
  exact ⟨rfl, rfl⟩
theorem rb_bytes_no (a : Option Addr) (n c : Nat) (s t : ByteArray) (w : World) (hn : n ≤ maxLen) (hs : s.size ≤ maxLen) (ht : t.size ≤ maxLen) (h : 1048576 < n + s.size + t.size) :
    Calls Try.prog 23 #[.slice a n c, .string s, .string t] w fun e w' => e = .returned (.bool false) ∧ w' = w := by
  unfold maxLen at hn hs ht
  by_cases h1 : 1048576 < n
  · go_enter Try.func23, Try.ntmps23
    go_wp2
    go_ret
    exact ⟨rfl, rfl⟩
  · by_cases h2 : 1048576 < s.size
    · go_enter Try.func23, Try.ntmps23
      go_wp2
      go_ret
      exact ⟨rfl, rfl⟩
    · by_cases h3 : 1048576 < n + s.size
      · go_enter Try.func23, Try.ntmps23
        go_wp2
        go_ret
        exact ⟨rfl, rfl⟩
      · by_cases h4 : 1048576 < t.size
        · go_enter Try.func23, Try.ntmps23
          go_wp2
          go_ret
          exact ⟨rfl, rfl⟩
        · go_enter Try.func23, Try.ntmps23
          go_wp2
          go_ret
          exact ⟨rfl, rfl⟩

theorem rb_guard (a : Option Addr) (n c : Nat) (s t : ByteArray) (w : World) (hn : n ≤ maxLen) (hs : s.size ≤ maxLen) (ht : t.size ≤ maxLen) (h : 1048576 < n + s.size + t.size ∨ 262144 < n ∨ 262144 < s.size ∨ 262144 < t.size) :
    Calls Try.prog 9 #[.slice a n c, .string s, .string t] w fun e w' => e = .returned (.bool true) ∧ Below w.heap.size w w' := by
  by_cases h0 : 1048576 < n + s.size + t.size
  · clear h
    go_enter Try.func9, Try.ntmps9
    go_wp2_with (go_at_call 23; refine (rb_bytes_no a n c s t _ hn hs ht h0).mono ?_; rintro e w' ⟨rfl, rfl⟩)
    go_ret
    exact ⟨rfl, Below.refl _ _⟩
  · have h0' : n + s.size + t.size ≤ 1048576 := by omega
    clear h0 hn hs ht
    by_cases h1 : 262144 < n
    · clear h
      go_enter Try.func9, Try.ntmps9
      go_wp2_with (go_at_call 23; refine (rb_bytes_yes a n c s t _ h0').mono ?_; rintro e w' ⟨rfl, rfl⟩)
      go_ret
      exact ⟨rfl, Below.refl _ _⟩
    · by_cases h2 : 262144 < s.size
      · clear h
        go_enter Try.func9, Try.ntmps9
        go_wp2_with (go_at_call 23; refine (rb_bytes_yes a n c s t _ h0').mono ?_; rintro e w' ⟨rfl, rfl⟩)
        go_ret
        exact ⟨rfl, Below.refl _ _⟩
      · have h3 : 262144 < t.size := by omega
        clear h
        go_enter Try.func9, Try.ntmps9
        go_wp2_with (go_at_call 23; refine (rb_bytes_yes a n c s t _ h0').mono ?_; rintro e w' ⟨rfl, rfl⟩)
        go_ret
        exact ⟨rfl, Below.refl _ _⟩

/-! ### zzEqualBytesString -/
set_option maxHeartbeats 400000 in
theorem equals_yes (b o c : Nat) (s : ByteArray) (w : World) (hn : s.size ≤ 4194304) (h1 : ∀ k, k < s.size → w.cell? ⟨b, o + k, none⟩ = some (.int .u8 (sb s k))) :
    Calls Try.prog 25 #[.slice (some ⟨b, o, none⟩) s.size c, .string s] w fun e w' => e = .returned (.bool true) ∧ Below w.heap.size w w' := by
  have H1 := hide h1
  clear h1
  go_enter Try.func25, Try.ntmps25
  go_wp2
  go_loopw [5] (fun i wr => ∃ k : Nat, k ≤ s.size ∧ i = .int .i64 k ∧ Below w.heap.size w wr) (fun i _ => s.size - (intOf i).toNat)
  case atStart => exact ⟨0, Nat.zero_le _, rfl, Below.refl _ _⟩
  case round =>
    obtain ⟨k, hk, rfl, hbel⟩ := hrel
    by_cases hlt : k < s.size
    · have g1 : wr.cell? ⟨b, o + k, none⟩ = some (.int .u8 ((s[k]'hlt).toNat : Int)) := by rw [hbel.cell (by exact block_lt_of_cell (H1.out k hlt)), ← sb_at s k hlt]; exact H1.out k hlt
      have hlt' : (k : Int) < (s.size : Int) := by omega
      have hk0 : (0 : Int) ≤ (k : Int) := by omega
      have HB := hide hbel
      clear hbel
      go_wp2
      go_quiet (fail)
      go_wp2
      go_roundw
      case rel => exact ⟨k + 1, by omega, by go_num, below_drewN HB.out nq⟩
      case measure => simp [intOf]; omega
    · have HB := hide hbel
      clear hbel
      go_wp2
      go_ret
      exact ⟨rfl, HB.out⟩

/-! ### cuts -/
theorem cut_from (g off c l m : Nat) (hc : l < c) (w : World) :
    (Instr.slice 22 (.slice (some ⟨g, off, none⟩) (l + m) c) (some (.int .i64 (l : Int))) none none).run Try.prog w = .ok (.slice (some ⟨g, off + l, none⟩) m (c - l)) w := by
  rw [run_slice_l w 22 (some ⟨g, off, none⟩) (l + m) c under22 .i64 (l : Int) (by omega) (by omega), elem22, size5]
  simp only [Result.andThen, sliced, Int.toNat_natCast]
  rw [if_neg (by omega)]
  simp [add_plain]
theorem cut_between (g off n c l m : Nat) (hm : l + m ≤ c) (hc : l < c) (w : World) :
    (Instr.slice 22 (.slice (some ⟨g, off, none⟩) n c) (some (.int .i64 (l : Int))) (some (.int .i64 ((l + m : Nat) : Int))) none).run Try.prog w = .ok (.slice (some ⟨g, off + l, none⟩) m (c - l)) w := by
  rw [run_slice_lh w 22 (some ⟨g, off, none⟩) n c under22 .i64 .i64 (l : Int) ((l + m : Nat) : Int) (by omega) (by omega) (by omega), elem22, size5]
  simp only [Result.andThen, sliced, Int.toNat_natCast]
  rw [if_neg (by omega)]
  simp [add_plain]
theorem cut_upto (g off n c m : Nat) (hm : m ≤ c) (hc : 0 < c) (w : World) :
    (Instr.slice 22 (.slice (some ⟨g, off, none⟩) n c) none (some (.int .i64 (m : Int))) none).run Try.prog w = .ok (.slice (some ⟨g, off, none⟩) m c) w := by
  rw [run_slice_h w 22 (some ⟨g, off, none⟩) n c under22 .i64 (m : Int) (by omega) (by omega), elem22, size5]
  simp only [Result.andThen, sliced, Int.toNat_natCast]
  rw [if_neg (by omega)]
  simp [add_plain]

/-- no byte of the code is a space, CR or LF -/
def Good (code : ByteArray) (k : Nat) : Prop := ∀ j, j < k → sb code j ≠ 32 ∧ sb code j ≠ 13 ∧ sb code j ≠ 10

theorem Good.next {code : ByteArray} {k : Nat} (h : Good code k) (h1 : sb code k ≠ 32) (h2 : sb code k ≠ 13) (h3 : sb code k ≠ 10) : Good code (k + 1) := by
  intro j hj
  by_cases e : j = k
  · subst e; exact ⟨h1, h2, h3⟩
  · exact h j (by omega)
theorem headOf_code (code msg : ByteArray) (k : Nat) (hk : k < code.size) : headOf code msg k = sb code k := by unfold headOf; rw [if_pos hk]
theorem headOf_space (code msg : ByteArray) : headOf code msg code.size = 32 := by unfold headOf; rw [if_neg (by omega), if_pos rfl]
theorem headOf_msg (code msg : ByteArray) (k : Nat) : headOf code msg (code.size + 1 + k) = clean (sb msg k) := by
  unfold headOf; rw [if_neg (by omega), if_neg (by omega), show code.size + 1 + k - code.size - 1 = k by omega]

theorem clean_not (z : Int) : clean z ≠ 13 ∧ clean z ≠ 10 := by
  unfold clean; split <;> omega

theorem Reply.later {w w' : World} {g n H : Nat} {h : Nat → Int} (r : Reply w g n H h) (hb : Below w.heap.size w w') : Reply w' g n H h where
  dash := by rw [hb.cell (by exact block_lt_of_cell r.dash)]; exact r.dash
  head := fun k hk => by rw [hb.cell (by exact block_lt_of_cell (r.head k hk))]; exact r.head k hk
  cr := by rw [hb.cell (by exact block_lt_of_cell r.cr)]; exact r.cr
  lf := by rw [hb.cell (by exact block_lt_of_cell r.lf)]; exact r.lf

set_option maxHeartbeats 2000000 in
theorem rb_plain (a : Option Addr) (n c : Nat) (f : Nat → Int) (code msg : ByteArray) (w : World) (hB : IsB w a n c f) (hn : n ≤ 262144) (hs : code.size ≤ 262144) (hm : msg.size = 0) :
    Calls Try.prog 9 #[.slice a n c, .string code, .string msg] w fun e w' => e = .returned (.bool true) ∧ Below w.heap.size w w' := by
  have HBB := hide hB
  clear hB
  have hemp : msg = ⟨#[]⟩ := by
    cases msg with
    | mk d => simp [ByteArray.size] at hm; rw [hm]
  subst hemp
  have HM := hide hm
  clear hm
  go_enter Try.func9, Try.ntmps9
  go_wp2_with (go_at_call 23; refine (rb_bytes_yes a n c code ⟨#[]⟩ _ (by rw [HM.out]; omega)).mono ?_; rintro e w' ⟨rfl, rfl⟩)
  go_loop [7] (fun i => ∃ k : Nat, k ≤ code.size ∧ i = .int .i64 k ∧ Good code k) (fun i => code.size - (intOf i).toNat)
  case atStart => exact ⟨0, Nat.zero_le _, rfl, fun j hj => by omega⟩
  case round =>
    obtain ⟨k, hk, rfl, hgood⟩ := hrel
    by_cases hlt : k < code.size
    · have HSB := hide (sb_at code k hlt)
      have HGD := hide hgood
      clear hgood
      by_cases h32 : ((code[k]'hlt).toNat : Int) = 32
      · have h32' : (((code[k]'hlt).toNat : Int) == 32) = true := by rw [h32]; rfl
        clear h32
        go_wp2
        go_ret
        exact ⟨rfl, Below.refl _ _⟩
      · have h32' : (((code[k]'hlt).toNat : Int) == 32) = false := by rw [beq_eq_false_iff_ne]; exact h32
        by_cases h13 : ((code[k]'hlt).toNat : Int) = 13
        · have h13' : (((code[k]'hlt).toNat : Int) == 13) = true := by rw [h13]; rfl
          clear h32 h13
          go_wp2
          go_ret
          exact ⟨rfl, Below.refl _ _⟩
        · have h13' : (((code[k]'hlt).toNat : Int) == 13) = false := by rw [beq_eq_false_iff_ne]; exact h13
          by_cases h10 : ((code[k]'hlt).toNat : Int) = 10
          · have h10' : (((code[k]'hlt).toNat : Int) == 10) = true := by rw [h10]; rfl
            clear h32 h13 h10
            go_wp2
            go_ret
            exact ⟨rfl, Below.refl _ _⟩
          · have h10' : (((code[k]'hlt).toNat : Int) == 10) = false := by rw [beq_eq_false_iff_ne]; exact h10
            have HG' := hide (Good.next HGD.out (by rw [HSB.out]; exact h32) (by rw [HSB.out]; exact h13) (by rw [HSB.out]; exact h10))
            clear h32 h13 h10
            go_wp2
            go_round
            case rel => exact ⟨k + 1, by omega, by go_num, HG'.out⟩
            case measure => simp [intOf]; omega
    · obtain rfl : k = code.size := by omega
      have HG := hide hgood
      clear hgood hlt hk
      go_wp2_with fail
      refine (clone_any a n c f _ (by omega) HBB.out).mono ?_
      rintro e w1 ⟨a1, rfl, ho1, hb1⟩
      have HO1 := hide ho1
      have HB1 := hide hb1
      have hz1 := hb1.size
      clear ho1 hb1
      go_wp2_with fail
      refine (err_plain a1 n n f code ⟨#[]⟩ _ _ HO1.out hz1 HM.out (by omega)).mono ?_
      rintro e w2 ⟨g, c2, rfl, hcap, hrep, hb2⟩
      have HREP := hide hrep
      have HB2 := hide (HB1.out.trans hb2)
      have hz2 := hb2.size
      have HHD := hide (fun k (hk : k < code.size) => headOf_code code ⟨#[]⟩ k hk)
      clear hrep hb2
      have k1 := cut_from g 0 c2 n (code.size + 3) (by omega)
      have k2 := cut_between g (0 + n) (code.size + 3) (c2 - n) 1 code.size (by omega) (by omega)
      have x1 := HREP.out.dash
      have x2 := HREP.out.cr
      have x3 := HREP.out.lf
      go_wp2_with fail
      rw [show code.size + 3 - 2 - 1 = code.size by omega]
      clear k1 k2 x1 x2 x3
      go_loop [13, 14] (fun v i => ∃ k : Nat, k ≤ code.size ∧ v = .int .i64 (-1) ∧ i = .int .i64 k) (fun _ i => code.size - (intOf i).toNat)
      case atStart => exact ⟨0, Nat.zero_le _, rfl, rfl⟩
      case round =>
        obtain ⟨k, hk, rfl, rfl⟩ := hrel
        by_cases hlt : k < code.size
        · have hx := HREP.out.head k hlt
          rw [HHD.out k hlt] at hx
          obtain ⟨n32, n13, n10⟩ := HG.out k hlt
          generalize sb code k = z at *
          have e32 : (z == 32) = false := by rw [beq_eq_false_iff_ne]; exact n32
          have e13 : (z == 13) = false := by rw [beq_eq_false_iff_ne]; exact n13
          have e10 : (z == 10) = false := by rw [beq_eq_false_iff_ne]; exact n10
          clear n32 n13 n10
          go_wp2
          go_round
          case rel => exact ⟨k + 1, by omega, rfl, by go_num⟩
          case measure => simp [intOf]; omega
        · go_wp2_with fail
          refine (equals_yes g (n + 1) (c2 - n - 1) code _ (by omega) (fun k hk => by rw [HREP.out.head k hk, HHD.out k hk])).mono ?_
          rintro e w3 ⟨rfl, hb3⟩
          have HB3 := hide (HB2.out.trans (hb3.mono (by omega)))
          clear hb3
          go_wp2
          go_ret
          exact ⟨rfl, HB3.out⟩

set_option maxHeartbeats 4000000 in
theorem rb_msg (a : Option Addr) (n c : Nat) (f : Nat → Int) (code msg : ByteArray) (w : World) (hB : IsB w a n c f) (hn : n ≤ 262144) (hs : code.size ≤ 262144) (hs2 : msg.size ≤ 262144) (hm : msg.toList.isEmpty = false) :
    Calls Try.prog 9 #[.slice a n c, .string code, .string msg] w fun e w' => e = .returned (.bool true) ∧ Below w.heap.size w w' := by
  have HBB := hide hB
  clear hB
  go_enter Try.func9, Try.ntmps9
  go_wp2_with (go_at_call 23; refine (rb_bytes_yes a n c code msg _ (by omega)).mono ?_; rintro e w' ⟨rfl, rfl⟩)
  go_loop [7] (fun i => ∃ k : Nat, k ≤ code.size ∧ i = .int .i64 k ∧ Good code k) (fun i => code.size - (intOf i).toNat)
  case atStart => exact ⟨0, Nat.zero_le _, rfl, fun j hj => by omega⟩
  case round =>
    obtain ⟨k, hk, rfl, hgood⟩ := hrel
    by_cases hlt : k < code.size
    · have HSB := hide (sb_at code k hlt)
      have HGD := hide hgood
      clear hgood
      by_cases h32 : ((code[k]'hlt).toNat : Int) = 32
      · have h32' : (((code[k]'hlt).toNat : Int) == 32) = true := by rw [h32]; rfl
        clear h32
        go_wp2
        go_ret
        exact ⟨rfl, Below.refl _ _⟩
      · have h32' : (((code[k]'hlt).toNat : Int) == 32) = false := by rw [beq_eq_false_iff_ne]; exact h32
        by_cases h13 : ((code[k]'hlt).toNat : Int) = 13
        · have h13' : (((code[k]'hlt).toNat : Int) == 13) = true := by rw [h13]; rfl
          clear h32 h13
          go_wp2
          go_ret
          exact ⟨rfl, Below.refl _ _⟩
        · have h13' : (((code[k]'hlt).toNat : Int) == 13) = false := by rw [beq_eq_false_iff_ne]; exact h13
          by_cases h10 : ((code[k]'hlt).toNat : Int) = 10
          · have h10' : (((code[k]'hlt).toNat : Int) == 10) = true := by rw [h10]; rfl
            clear h32 h13 h10
            go_wp2
            go_ret
            exact ⟨rfl, Below.refl _ _⟩
          · have h10' : (((code[k]'hlt).toNat : Int) == 10) = false := by rw [beq_eq_false_iff_ne]; exact h10
            have HG' := hide (Good.next HGD.out (by rw [HSB.out]; exact h32) (by rw [HSB.out]; exact h13) (by rw [HSB.out]; exact h10))
            clear h32 h13 h10
            go_wp2
            go_round
            case rel => exact ⟨k + 1, by omega, by go_num, HG'.out⟩
            case measure => simp [intOf]; omega
    · obtain rfl : k = code.size := by omega
      have HG := hide hgood
      clear hgood hlt hk
      go_wp2_with fail
      refine (clone_any a n c f _ (by omega) HBB.out).mono ?_
      rintro e w1 ⟨a1, rfl, ho1, hb1⟩
      have HO1 := hide ho1
      have HB1 := hide hb1
      have hz1 := hb1.size
      clear ho1 hb1
      go_wp2_with fail
      refine (err_msg a1 n n f code msg _ _ HO1.out hz1 hm (by omega)).mono ?_
      rintro e w2 ⟨g, c2, rfl, hcap, hrep, hb2⟩
      have HREP := hide hrep
      have HB2 := hide (HB1.out.trans hb2)
      have hz2 := hb2.size
      clear hrep hb2
      generalize hH : code.size + 1 + msg.size = H at *
      have HH := hide hH
      have hH1 : code.size + 1 ≤ H := by omega
      have hH2 : H ≤ 524300 := by omega
      clear hH
      have k1 := cut_from g 0 c2 n (H + 3) (by omega)
      have k2 := cut_between g (0 + n) (H + 3) (c2 - n) 1 H (by omega) (by omega)
      have x1 := HREP.out.dash
      have x2 := HREP.out.cr
      have x3 := HREP.out.lf
      go_wp2_with fail
      rw [show H + 3 - 2 - 1 = H by omega]
      clear k1 k2 x1 x2 x3
      go_loop [13, 14] (fun v i => ∃ k : Nat, k ≤ H ∧ v = .int .i64 (if k ≤ code.size then -1 else (code.size : Int)) ∧ i = .int .i64 k) (fun _ i => H - (intOf i).toNat)
      case atStart => exact ⟨0, Nat.zero_le _, rfl, rfl⟩
      case round =>
        obtain ⟨k, hk, rfl, rfl⟩ := hrel
        by_cases hlt : k < H
        · have hx := HREP.out.head k hlt
          by_cases hc : k < code.size
          · rw [headOf_code code msg k hc] at hx
            obtain ⟨n32, n13, n10⟩ := HG.out k hc
            generalize sb code k = z at *
            have e32 : (z == 32) = false := by rw [beq_eq_false_iff_ne]; exact n32
            have e13 : (z == 13) = false := by rw [beq_eq_false_iff_ne]; exact n13
            have e10 : (z == 10) = false := by rw [beq_eq_false_iff_ne]; exact n10
            clear n32 n13 n10
            rw [if_pos (show k ≤ code.size by omega)]
            go_wp2
            go_round
            case rel => exact ⟨k + 1, by omega, by rw [if_pos (by omega)], by go_num⟩
            case measure => simp [intOf]; omega
          · by_cases hq : k = code.size
            · subst hq
              rw [headOf_space code msg] at hx
              rw [if_pos (Nat.le_refl _)]
              go_wp2
              go_round
              case rel => exact ⟨code.size + 1, by omega, by rw [if_neg (by omega)], by go_num⟩
              case measure => simp [intOf]; omega
            · rw [if_neg (show ¬ k ≤ code.size by omega)]
              have hcl := headOf_msg code msg (k - code.size - 1)
              rw [show code.size + 1 + (k - code.size - 1) = k by omega] at hcl
              rw [hcl] at hx
              have hnb := clean_not (sb msg (k - code.size - 1))
              generalize clean (sb msg (k - code.size - 1)) = z at *
              have e13 : (z == 13) = false := by rw [beq_eq_false_iff_ne]; exact hnb.1
              have e10 : (z == 10) = false := by rw [beq_eq_false_iff_ne]; exact hnb.2
              have hgt : code.size < k := by omega
              have hneg : decide ((code.size : Int) < 0) = false := decide_eq_false (by omega)
              clear hnb hcl hq hc
              go_wp2
              go_round
              case rel => exact ⟨k + 1, by omega, by rw [if_neg (by omega)], by go_num⟩
              case measure => simp [intOf]; omega
        · obtain rfl : k = H := by omega
          rw [if_neg (show ¬ k ≤ code.size by omega)]
          clear hlt hk
          have k3 := cut_upto g (n + 1) k (c2 - n - 1) code.size (by omega) (by omega)
          go_wp2_with fail
          refine (equals_yes g (n + 1) (c2 - n - 1) code _ (by omega) (fun j hj => by rw [HREP.out.head j (by omega), headOf_code code msg j hj])).mono ?_
          rintro e w3 ⟨rfl, hb3⟩
          have HREP3 := hide (HREP.out.later hb3)
          have hz3 := hb3.size
          have HB3 := hide (HB2.out.trans (hb3.mono (by omega)))
          clear hb3 k3
          have k4 : ∀ w, (Instr.slice 22 (.slice (some ⟨g, n + 1, none⟩) k (c2 - n - 1)) (some (.int .i64 ((code.size : Int) + 1))) none none).run Try.prog w = .ok (.slice (some ⟨g, n + 1 + (code.size + 1), none⟩) msg.size (c2 - n - 1 - (code.size + 1))) w := by
            intro w
            have := cut_from g (n + 1) (c2 - n - 1) (code.size + 1) msg.size (by omega) w
            rw [HH.out] at this
            exact this
          go_wp2_with fail
          clear k4
          go_loopw [16] (fun i wx => ∃ j : Nat, j ≤ msg.size ∧ i = .int .i64 j ∧ Below w3.heap.size w3 wx) (fun i _ => msg.size - (intOf i).toNat)
          case atStart => exact ⟨0, Nat.zero_le _, rfl, Below.refl _ _⟩
          case round =>
            obtain ⟨j, hj, rfl, hbel⟩ := hrel
            by_cases hjt : j < msg.size
            · have gc : wr.cell? ⟨g, n + 1 + (code.size + 1) + j, none⟩ = some (.int .u8 (clean ((msg[j]'hjt).toNat : Int))) := by
                have h0 := HREP3.out.head (code.size + 1 + j) (by have := HH.out; omega)
                rw [headOf_msg, sb_at msg j hjt, show n + 1 + (code.size + 1 + j) = n + 1 + (code.size + 1) + j by omega] at h0
                rw [hbel.cell (by exact block_lt_of_cell h0)]; exact h0
              have hjt' : (j : Int) < (msg.size : Int) := by omega
              have hj0 : (0 : Int) ≤ (j : Int) := by omega
              have HB := hide hbel
              clear hbel
              go_wp2
              go_quiet ((go_at_call 18; exact Calls.quiet_of_same (clean_any _ _)))
              go_wp2
              go_roundw
              case rel => exact ⟨j + 1, by omega, by go_num, below_drewN HB.out nq⟩
              case measure => simp [intOf]; omega
            · have HBx := hide (HB3.out.trans (hbel.mono (by have := HB3.out.size; omega)))
              clear hbel
              go_wp2
              go_ret
              exact ⟨rfl, HBx.out⟩

theorem nonempty_of_size (msg : ByteArray) (h : msg.size ≠ 0) : msg.toList.isEmpty = false := by
  rw [ByteArray.toList_eq, List.isEmpty_eq_false_iff]
  intro e
  apply h
  have := congrArg List.length e
  simpa using this

end Go.Proofs.Qxb6601172a
