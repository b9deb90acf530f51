import Derived.Test.Qxb6601172aRound
import Derived.Deep.OwnRows
import Derived.Laws.CopyRow
namespace Go.Proofs.Qxb6601172a
open Go.ChangeShapes Go.WideShapes Go.ChangeAt Go.RowKit

theorem info5 : (Try.prog.info? 5).map (fun i => (i.zero, i.size, i.bytes)) = some (some (.int .u8 0), 1, 1) := by kernel_rfl
theorem size5' : (Try.prog.info? 5).map (·.size) = some 1 := by kernel_rfl

theorem made (n : Nat) (h : n ≤ 1048576) (w : World) :
    (Instr.makeSlice 22 (.int .i64 (n : Int)) (.int .i64 (n : Int))).run Try.prog w = .ok (.slice (some ⟨w.heap.size, 0, none⟩) n n) (w.alloc (.cells (madeCells #[.int .u8 0] n) 5)) :=
  run_make_row' 22 5 (.int .u8 0) 1 Try.underlying22 info5 rfl .i64 .i64 n (by omega) (by omega) w

/-- what zzc holds behind 'copy(zzc, digits)' -/
theorem copied (n c : Nat) (x : Addr) (f : Nat → Int) (w : World) (hc : ∀ k, k < n → w.cell? (x.add k) = some (.int .u8 (f k))) :
    ∃ W, (∀ ty, (Builtin.copy_ #[22, 22] ty #[.slice (some ⟨w.heap.size, 0, none⟩) n n, .slice (some x) n c]).run Try.prog (w.alloc (.cells (madeCells #[.int .u8 0] n) 5)) = .ok (goInt n) W) ∧
      W.rowIs w.heap.size 5 n (fun k => .int .u8 (f k)) ∧ Below w.heap.size w W := by
  have hs : (madeCells #[.int .u8 0] n).size = n := size_madeCells _ _
  have hh : (w.alloc (.cells (madeCells #[.int .u8 0] n) 5)).heap[w.heap.size]? = some (.cells (madeCells #[.int .u8 0] n) 5 (0, 0)) := by
    show (w.heap.push _)[w.heap.size]? = _
    simp
  have hr := fun ty => run_copy_row Try.prog (w.alloc (.cells (madeCells #[.int .u8 0] n) 5)) 22 22 ty 5 w.heap.size 0 n n x n c (madeCells #[.int .u8 0] n) 5 ((List.range n).map fun k => .int .u8 (f k)) Try.underlying22 size5'
    hh (by simp) (by
      intro j v hj
      simp only [List.getElem?_map] at hj
      by_cases h : j < n
      · rw [List.getElem?_range h] at hj
        simp at hj
        subst hj
        have hx := hc j h
        have hb : (x.add j).block < w.heap.size := block_lt_of_cell hx
        rw [World.cell?_alloc_lt _ _ _ hb]; exact hx
      · rw [List.getElem?_eq_none (by simp; omega)] at hj
        simp at hj) (by simp [hs]) (by intro v hv; simp at hv; obtain ⟨k, _, rfl⟩ := hv; rfl)
  simp only [List.length_map, List.length_range] at hr
  refine ⟨_, hr, ⟨_, setRow_heap _ _ _ _ _ _ hh, ?_, ?_⟩, ?_⟩
  · simp [hs]
  · intro k hk
    rw [List.getElem?_toArray, List.take_zero, List.nil_append, List.getElem?_append_left (by simpa using hk)]
    simp [hk]
  · exact ((Below.refl _ _).alloc (Nat.le_refl _) _).trans ⟨rfl, rfl, rfl, by simp [World.setRow], fun k hk => setRow_other _ _ _ _ (by omega)⟩

theorem spec_bytes_yes (a : Option Addr) (n c : Nat) (w : World) (h : n ≤ 1048576) :
    Calls Try.prog 10 #[.slice a n c] w fun e w' => e = .returned (.bool true) ∧ w' = w := by
  go_enter Try.func10, Try.ntmps10
  go_wp2
  go_ret
  exact ⟨rfl, rfl⟩
theorem spec_bytes_no (a : Option Addr) (n c : Nat) (w : World) (hn : n ≤ maxLen) (h : 1048576 < n) :
    Calls Try.prog 10 #[.slice a n c] w fun e w' => e = .returned (.bool false) ∧ w' = w := by
  unfold maxLen at hn
  go_enter Try.func10, Try.ntmps10
  go_wp2
  go_ret
  exact ⟨rfl, rfl⟩

theorem spec_great (a : Option Addr) (n c : Nat) (w : World) (hn : n ≤ maxLen) (h : 1048576 < n) :
    Calls Try.prog 3 #[.slice a n c] w fun e w' => e = .returned (.bool true) ∧ Below w.heap.size w w' := by
  go_enter Try.func3, Try.ntmps3
  go_wp2_with (go_at_call 10; refine (spec_bytes_no a n c _ hn h).mono ?_; rintro e w' ⟨rfl, rfl⟩)
  go_ret
  exact ⟨rfl, Below.refl _ _⟩

theorem spec_nil (w : World) :
    Calls Try.prog 3 #[.slice none 0 0] w fun e w' => e = .returned (.bool true) ∧ Below w.heap.size w w' := by
  have hnn := fun w => run_neq_slice_nil_any (P := Try.prog) w 22 5 none 0 0 0 0 Try.underlying22
  go_enter Try.func3, Try.ntmps3
  go_wp2_with (first | (go_at_call 10; refine (spec_bytes_yes none 0 0 _ (by omega)).mono ?_; rintro e w' ⟨rfl, rfl⟩) | (go_at_call 11; refine (zzparse_short none 0 0 _ (by omega) (by unfold maxLen; omega)).mono ?_; rintro e w' ⟨rfl, rfl⟩))
  go_loop [6, 7] (fun v i => v = .bool false ∧ i = .int .i64 0) (fun _ _ => 0)
  case atStart => exact ⟨rfl, rfl⟩
  case round =>
    obtain ⟨rfl, rfl⟩ := hrel
    go_wp2
    go_ret
    exact ⟨rfl, Below.refl _ _⟩

theorem spec_empty (x : Addr) (n c : Nat) (w : World) (hs : n < 1) :
    Calls Try.prog 3 #[.slice (some x) n c] w fun e w' => e = .returned (.bool true) ∧ Below w.heap.size w w' := by
  obtain ⟨W, hcp, hrow, hbel⟩ := copied n c x (fun _ => 0) w (by omega)
  have hmk := made n (by omega)
  have HB := hide hbel
  have hd1 : decide ((1 : Int) ≤ (n : Int)) = false := by simp; omega
  have hnn := fun w => run_neq_slice_nil_any (P := Try.prog) w 22 5 (some x) n c 0 0 Try.underlying22
  clear hrow hbel
  go_enter Try.func3, Try.ntmps3
  go_wp2_with (first | (go_at_call 10; refine (spec_bytes_yes (some x) n c _ (by omega)).mono ?_; rintro e w' ⟨rfl, rfl⟩) | (go_at_call 11; refine (zzparse_short _ n n _ (by omega) (by unfold maxLen; omega)).mono ?_; rintro e w' ⟨rfl, rfl⟩))
  go_loop [6, 7] (fun v i => v = .bool false ∧ i = .int .i64 0) (fun _ _ => 0)
  case atStart => exact ⟨rfl, rfl⟩
  case round =>
    obtain ⟨rfl, rfl⟩ := hrel
    go_wp2
    go_ret
    exact ⟨rfl, HB.out⟩

theorem spec_long (x : Addr) (n c : Nat) (f : Nat → Int) (w : World) (hc : ∀ k, k < n → w.cell? (x.add k) = some (.int .u8 (f k))) (h : n ≤ 1048576) (hs : 9 < n) :
    Calls Try.prog 3 #[.slice (some x) n c] w fun e w' => e = .returned (.bool true) ∧ Below w.heap.size w w' := by
  obtain ⟨W, hcp, hrow, hbel⟩ := copied n c x f w hc
  have hmk := made n h
  have HB := hide hbel
  have hd1 : decide ((1 : Int) ≤ (n : Int)) = true := by simp; omega
  have hd : decide ((n : Int) ≤ 9) = false := by simp; omega
  have hnn := fun w => run_neq_slice_nil_any (P := Try.prog) w 22 5 (some x) n c 0 0 Try.underlying22
  clear hrow hbel hc
  go_enter Try.func3, Try.ntmps3
  go_wp2_with (first | (go_at_call 10; refine (spec_bytes_yes (some x) n c _ h).mono ?_; rintro e w' ⟨rfl, rfl⟩) | (go_at_call 11; refine (zzparse_short _ n n _ (.inr hs) (by unfold maxLen; omega)).mono ?_; rintro e w' ⟨rfl, rfl⟩))
  go_loop [6, 7] (fun v i => v = .bool false ∧ i = .int .i64 0) (fun _ _ => 0)
  case atStart => exact ⟨rfl, rfl⟩
  case round =>
    obtain ⟨rfl, rfl⟩ := hrel
    go_wp2
    go_ret
    exact ⟨rfl, HB.out⟩

theorem zzparse_yes (b off n c : Nat) (f : Nat → Int) (w : World) (h1 : 1 ≤ n) (h9 : n ≤ 9) (hb : ∀ k, k < n → 0 ≤ f k ∧ f k ≤ 255)
    (hc : ∀ k, k < n → w.cell? ⟨b, off + k, none⟩ = some (.int .u8 (f k))) (hp : pok f n = true) :
    Calls Try.prog 11 #[.slice (some ⟨b, off, none⟩) n c] w fun e w' => e = .returned (.tuple #[.int .i64 (pval f n), .bool true]) ∧ w' = w := by
  have e : pans f n = (pval f n, true) := by unfold pans; rw [if_neg (by omega), if_pos hp]
  have := zzparse_read b off n c f w h1 h9 hb hc
  rw [e] at this
  exact this
theorem zzparse_no (b off n c : Nat) (f : Nat → Int) (w : World) (h1 : 1 ≤ n) (h9 : n ≤ 9) (hb : ∀ k, k < n → 0 ≤ f k ∧ f k ≤ 255)
    (hc : ∀ k, k < n → w.cell? ⟨b, off + k, none⟩ = some (.int .u8 (f k))) (hp : pok f n = false) :
    Calls Try.prog 11 #[.slice (some ⟨b, off, none⟩) n c] w fun e w' => e = .returned (.tuple #[.int .i64 0, .bool false]) ∧ w' = w := by
  have e : pans f n = (0, false) := by unfold pans; rw [if_neg (by omega), hp]; rfl
  have := zzparse_read b off n c f w h1 h9 hb hc
  rw [e] at this
  exact this

set_option maxHeartbeats 800000 in
theorem spec_no (x : Addr) (n c : Nat) (f : Nat → Int) (w : World) (hc : ∀ k, k < n → w.cell? (x.add k) = some (.int .u8 (f k))) (hb : ∀ k, k < n → 0 ≤ f k ∧ f k ≤ 255) (h1 : 1 ≤ n) (h9 : n ≤ 9) (hp : pok f n = false) :
    Calls Try.prog 3 #[.slice (some x) n c] w fun e w' => e = .returned (.bool true) ∧ Below w.heap.size w w' := by
  obtain ⟨W, hcp, hrow, hbel⟩ := copied n c x f w hc
  have hmk := made n (by omega)
  have HR := hide hrow
  have HB := hide hbel
  have HBB := hide hb
  have HP := hide hp
  have hd1 : decide ((1 : Int) ≤ (n : Int)) = true := by simp; omega
  have hd : decide ((n : Int) ≤ 9) = true := by simp; omega
  have hnn := fun w => run_neq_slice_nil_any (P := Try.prog) w 22 5 (some x) n c 0 0 Try.underlying22
  clear hrow hbel hc hb hp
  go_enter Try.func3, Try.ntmps3
  go_wp2_with (go_at_call 10; refine (spec_bytes_yes (some x) n c _ (by omega)).mono ?_; rintro e w' ⟨rfl, rfl⟩)
  refine (zzparse_no _ 0 n n f _ h1 h9 HBB.out (fun k hk => by rw [Nat.zero_add]; exact HR.out.cell hk) HP.out).mono ?_
  rintro e w' ⟨rfl, rfl⟩
  go_wp2
  clear hcp hmk hnn
  go_loop [6, 7] (fun v i => ∃ k : Nat, k ≤ n ∧ v = .bool (pok f k) ∧ i = .int .i64 k) (fun _ i => n - (intOf i).toNat)
  case atStart => exact ⟨0, by omega, rfl, rfl⟩
  case round =>
    obtain ⟨k, hk, rfl, rfl⟩ := hrel
    by_cases hlt : k < n
    · have hck := HR.out.cell hlt
      have hbk := HBB.out k hlt
      cases hpk : pok f k with
      | false =>
        clear hpk
        go_wp2
        go_ret
        exact ⟨rfl, HB.out⟩
      | true =>
        have HPK := hide hpk
        clear hpk
        by_cases hdg1 : 48 ≤ f k
        · by_cases hdg2 : f k ≤ 57
          · go_wp2
            go_round
            case rel => exact ⟨k + 1, by omega, by rw [pok_succ f k HPK.out hdg1 hdg2], by go_num⟩
            case measure => simp [intOf]; omega
          · go_wp2
            go_round
            case rel => exact ⟨k + 1, by omega, by rw [pok_not f (k + 1) k (by omega) (by omega)], by go_num⟩
            case measure => simp [intOf]; omega
        · go_wp2
          go_round
          case rel => exact ⟨k + 1, by omega, by rw [pok_not f (k + 1) k (by omega) (by omega)], by go_num⟩
          case measure => simp [intOf]; omega
    · have hpk : pok f k = false := by obtain rfl : k = n := by omega
                                       exact HP.out
      rw [hpk]
      clear hpk
      go_wp2
      go_ret
      exact ⟨rfl, HB.out⟩

/-! ### the second loop: place values, right to left -/
theorem pow10_le (t : Nat) (h : t ≤ 8) : (1 : Int) ≤ 10 ^ t ∧ (10 : Int) ^ t ≤ 100000000 := by
  match t, h with
  | 0, _ => decide
  | 1, _ => decide
  | 2, _ => decide
  | 3, _ => decide
  | 4, _ => decide
  | 5, _ => decide
  | 6, _ => decide
  | 7, _ => decide
  | 8, _ => decide
/-- the digits from place j on, to the end n -/
def tailv (f : Nat → Int) (n j : Nat) : Int := pval (fun i => f (j + i)) (n - j)
theorem tailv_step (f : Nat → Int) (n j : Nat) (h : j < n) : tailv f n j = tailv f n (j + 1) + (f j - 48) * 10 ^ (n - (j + 1)) := by
  unfold tailv
  have e : n - j = 1 + (n - (j + 1)) := by omega
  conv => lhs; rw [e]
  rw [pval_split]
  have e1 : pval (fun i => f (j + i)) 1 = f j - 48 := by simp [pval]
  have e2 : pval (fun i => (fun i => f (j + i)) (1 + i)) (n - (j + 1)) = pval (fun i => f (j + 1 + i)) (n - (j + 1)) := by
    apply pval_congr
    intro i _
    show f (j + (1 + i)) = f (j + 1 + i)
    congr 1
    omega
  rw [e1, e2]
  omega
theorem tailv_bd (f : Nat → Int) (n j : Nat) (hp : pok f n = true) (hj : j ≤ n) (h9 : n ≤ 9) : 0 ≤ tailv f n j ∧ tailv f n j ≤ 999999999 :=
  pval_small _ _ (by omega) (pok_of _ _ fun k hk => pok_at f n hp (j + k) (by omega))
theorem mul_bd (d P : Int) (hd : 0 ≤ d ∧ d ≤ 9) (hP : 1 ≤ P ∧ P ≤ 100000000) : 0 ≤ d * P ∧ d * P ≤ 900000000 := by
  constructor
  · exact Int.mul_nonneg hd.1 (by omega)
  · have h1 : d * P ≤ 9 * P := Int.mul_le_mul_of_nonneg_right hd.2 (by omega)
    omega

set_option maxHeartbeats 800000 in
theorem spec_yes (x : Addr) (n c : Nat) (f : Nat → Int) (w : World) (hc : ∀ k, k < n → w.cell? (x.add k) = some (.int .u8 (f k))) (hb : ∀ k, k < n → 0 ≤ f k ∧ f k ≤ 255) (h1 : 1 ≤ n) (h9 : n ≤ 9) (hp : pok f n = true) :
    Calls Try.prog 3 #[.slice (some x) n c] w fun e w' => e = .returned (.bool true) ∧ Below w.heap.size w w' := by
  obtain ⟨W, hcp, hrow, hbel⟩ := copied n c x f w hc
  have hmk := made n (by omega)
  have HR := hide hrow
  have HB := hide hbel
  have HBB := hide hb
  have HP := hide hp
  have hd1 : decide ((1 : Int) ≤ (n : Int)) = true := by simp; omega
  have hd : decide ((n : Int) ≤ 9) = true := by simp; omega
  have hnn := fun w => run_neq_slice_nil_any (P := Try.prog) w 22 5 (some x) n c 0 0 Try.underlying22
  clear hrow hbel hc hb hp
  go_enter Try.func3, Try.ntmps3
  go_wp2_with (go_at_call 10; refine (spec_bytes_yes (some x) n c _ (by omega)).mono ?_; rintro e w' ⟨rfl, rfl⟩)
  refine (zzparse_yes _ 0 n n f _ h1 h9 HBB.out (fun k hk => by rw [Nat.zero_add]; exact HR.out.cell hk) HP.out).mono ?_
  rintro e w' ⟨rfl, rfl⟩
  go_wp2
  clear hcp hmk hnn
  go_loop [6, 7] (fun v i => ∃ k : Nat, k ≤ n ∧ v = .bool true ∧ i = .int .i64 k) (fun _ i => n - (intOf i).toNat)
  case atStart => exact ⟨0, by omega, rfl, rfl⟩
  case round =>
    obtain ⟨k, hk, rfl, rfl⟩ := hrel
    by_cases hlt : k < n
    · have hck := HR.out.cell hlt
      have hbk := HBB.out k hlt
      obtain ⟨hdg1, hdg2⟩ := pok_at f n HP.out k hlt
      go_wp2
      go_round
      case rel => exact ⟨k + 1, by omega, rfl, by go_num⟩
      case measure => simp [intOf]; omega
    · go_wp2
      go_loop [8, 9, 10] (fun v q i => ∃ j : Nat, j ≤ n ∧ v = .int .i64 (tailv f n j) ∧ q = .int .i64 (10 ^ (n - j)) ∧ i = .int .i64 ((j : Int) - 1)) (fun _ _ i => (intOf i + 1).toNat)
      case atStart => exact ⟨n, by omega, by simp [tailv, pval], by simp, rfl⟩
      case round =>
        obtain ⟨j, hj, rfl, rfl, rfl⟩ := hrel
        cases j with
        | zero =>
          have e : tailv f n 0 = pval f n := by simp [tailv]
          have he : (pval f n == tailv f n 0) = true := by rw [e]; simp
          clear e
          go_wp2
          go_ret
          exact ⟨rfl, HB.out⟩
        | succ j =>
          have hck := HR.out.cell (i := j) (by omega)
          have hbk := HBB.out j (by omega)
          obtain ⟨hdg1, hdg2⟩ := pok_at f n HP.out j (by omega)
          have hbd := tailv_bd f n (j + 1) HP.out (by omega) h9
          have hst := tailv_step f n j (by omega)
          have hpw := pow10_le (n - (j + 1)) (by omega)
          have e10 : (10 : Int) ^ (n - j) = 10 ^ (n - (j + 1)) * 10 := by rw [← Int.pow_succ]; congr 1; omega
          have HST := hide hst
          have HE := hide e10
          clear hst e10
          generalize (10 : Int) ^ (n - (j + 1)) = P at *
          generalize tailv f n (j + 1) = V at *
          have hmb := mul_bd (f j - 48) P (by omega) hpw
          go_wp2
          go_round
          case rel => exact ⟨j, by omega, by rw [HST.out], by rw [HE.out], rfl⟩
          case measure => simp [intOf]

end Go.Proofs.Qxb6601172a
