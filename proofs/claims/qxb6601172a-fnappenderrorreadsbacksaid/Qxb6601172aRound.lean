import Derived.Test.Qxb6601172aParse
namespace Go.Proofs.Qxb6601172a
open Go.ChangeShapes Go.WideShapes Go.ChangeAt Go.RowKit

/-! ### plain facts on pval -/
theorem pval_split (f : Nat → Int) (a : Nat) : ∀ b, pval f (a + b) = pval f a * 10 ^ b + pval (fun i => f (a + i)) b
  | 0 => by simp [pval]
  | b + 1 => by
    show pval f (a + b) * 10 + (f (a + b) - 48) = _
    rw [pval_split f a b]
    simp only [pval]
    rw [Int.pow_succ, ← Int.mul_assoc, Int.add_mul]
    omega
theorem pval_congr (f g : Nat → Int) : ∀ n, (∀ k, k < n → f k = g k) → pval f n = pval g n
  | 0, _ => rfl
  | n + 1, h => by simp only [pval]; rw [pval_congr f g n fun k hk => h k (by omega), h n (by omega)]
theorem pval_zeros (f : Nat → Int) : ∀ n, (∀ k, k < n → f k = 48) → pval f n = 0
  | 0, _ => rfl
  | n + 1, h => by simp only [pval]; rw [pval_zeros f n fun k hk => h k (by omega), h n (by omega)]; rfl

/-- what holds at the head of the second loop: k places are still to be filled, m is what is left of n -/
structure Left9 (n : Int) (g : Nat → Int) (k : Nat) (m : Int) : Prop where
  k9 : k ≤ 9
  m0 : 0 ≤ m
  mlt : m < 10 ^ k
  sum : n = m * 10 ^ (9 - k) + pval (fun i => g (k + i)) (9 - k)
  low : ∀ j, j < k → g j = 48
  dig : ∀ j, j < 9 → 48 ≤ g j ∧ g j ≤ 57
  go : k = 9 ∨ m ≠ 0

theorem Left9.pos {n : Int} {g : Nat → Int} {k : Nat} {m : Int} (h : Left9 n g k m) : 0 < k := by
  cases k with
  | zero =>
    have := h.mlt; have := h.m0; have := h.go
    simp at *; omega
  | succ k => omega
theorem Left9.small {n : Int} {g : Nat → Int} {k : Nat} {m : Int} (h : Left9 n g k m) : m ≤ 999999999 := by
  have h1 := h.mlt
  have h2 : (10 : Int) ^ k ≤ 10 ^ 9 := by
    match k, h.k9 with
    | 0, _ => decide
    | 1, _ => decide
    | 2, _ => decide
    | 3, _ => decide
    | 4, _ => decide
    | 5, _ => decide
    | 6, _ => decide
    | 7, _ => decide
    | 8, _ => decide
    | 9, _ => decide
  have h9 : (10 : Int) ^ 9 = 1000000000 := by decide
  omega

def put (g : Nat → Int) (k : Nat) (v : Int) : Nat → Int := fun j => if j = k then v else g j

/-- one round: the last digit of m goes to place k -/
theorem Left9.sum' {n : Int} {g : Nat → Int} {k : Nat} {m : Int} (h : Left9 n g (k + 1) m) :
    n = (m / 10) * 10 ^ (9 - k) + pval (fun i => put g k (48 + m % 10) (k + i)) (9 - k) := by
  have hk := h.k9
  have e : 9 - k = 1 + (9 - (k + 1)) := by omega
  rw [e, pval_split, ← e]
  have e1 : pval (fun i => put g k (48 + m % 10) (k + i)) 1 = m % 10 := by simp [pval, put]; omega
  have e2 : pval (fun i => (fun i => put g k (48 + m % 10) (k + i)) (1 + i)) (9 - (k + 1)) = pval (fun i => g (k + 1 + i)) (9 - (k + 1)) := by
    apply pval_congr
    intro i _
    simp only [put]
    rw [if_neg (by omega)]
    congr 1
    omega
  rw [e1, e2]
  have hs := h.sum
  have e3 : (10 : Int) ^ (9 - k) = 10 ^ (9 - (k + 1)) * 10 := by
    rw [← Int.pow_succ]; congr 1; omega
  rw [e3]
  generalize (10 : Int) ^ (9 - (k + 1)) = P at *
  generalize pval (fun i => g (k + 1 + i)) (9 - (k + 1)) = V at *
  rw [hs]
  have e4 : m * P = (m / 10) * (P * 10) + m % 10 * P := by
    have : m = 10 * (m / 10) + m % 10 := by omega
    conv => lhs; rw [this]
    rw [Int.add_mul, Int.mul_comm 10 (m / 10), Int.mul_assoc, Int.mul_comm 10 P]
  rw [e4]; omega

theorem put_dig {g : Nat → Int} {k : Nat} {m : Int} (hd : ∀ j, j < 9 → 48 ≤ g j ∧ g j ≤ 57) : ∀ j, j < 9 → 48 ≤ put g k (48 + m % 10) j ∧ put g k (48 + m % 10) j ≤ 57 := by
  intro j hj
  unfold put
  split
  · omega
  · exact hd j hj
theorem put_low {g : Nat → Int} {k : Nat} {v : Int} (hl : ∀ j, j < k + 1 → g j = 48) : ∀ j, j < k → put g k v j = 48 := by
  intro j hj
  unfold put
  rw [if_neg (by omega)]
  exact hl j (by omega)

theorem Left9.next {n : Int} {g : Nat → Int} {k : Nat} {m : Int} (h : Left9 n g (k + 1) m) (hm : m / 10 ≠ 0) : Left9 n (put g k (48 + m % 10)) k (m / 10) where
  k9 := by have := h.k9; omega
  m0 := by have := h.m0; omega
  mlt := by have := h.mlt; rw [Int.pow_succ] at this; omega
  sum := h.sum'
  low := put_low h.low
  dig := put_dig h.dig
  go := Or.inr hm

/-- the loop is left: the digits from place k on spell n, and all nine spell n -/
theorem Left9.last {n : Int} {g : Nat → Int} {k : Nat} {m : Int} (h : Left9 n g (k + 1) m) (hm : m / 10 = 0) :
    pans (fun i => put g k (48 + m % 10) (k + i)) (9 - k) = (n, true) ∧ pans (put g k (48 + m % 10)) 9 = (n, true) := by
  have hs := h.sum'
  have hd := put_dig (k := k) (m := m) h.dig
  have hl := put_low (v := 48 + m % 10) h.low
  have hk := h.k9
  generalize put g k (48 + m % 10) = G at *
  rw [hm] at hs
  have hs' : pval (fun i => G (k + i)) (9 - k) = n := by rw [hs]; omega
  constructor
  · unfold pans
    rw [if_neg (by omega), pok_of _ _ (fun j hj => hd (k + j) (by omega)), hs']; rfl
  · unfold pans
    rw [if_neg (by omega), pok_of _ _ hd]
    have e : (9 : Nat) = k + (9 - k) := by omega
    have hv : pval G 9 = n := by
      conv => lhs; rw [e]
      rw [pval_split, pval_zeros G k hl, hs']
      omega
    rw [hv]; rfl

theorem Left9.start {n : Int} (h0 : 0 ≤ n) (h9 : n ≤ 999999999) {g : Nat → Int} (hg : ∀ j, j < 9 → g j = 48) : Left9 n g 9 n where
  k9 := by omega
  m0 := h0
  mlt := by have h9 : (10 : Int) ^ 9 = 1000000000 := by decide
            omega
  sum := by simp [pval]
  low := hg
  dig := fun j hj => by rw [hg j hj]; omega
  go := Or.inl rfl

/-! ### the nine cells -/
structure Buf (w wr : World) (g : Nat → Int) : Prop where
  cell : ∀ j, j < 9 → wr.cell? ⟨w.heap.size, j, none⟩ = some (.int .u8 (g j))
  free : ∀ j, j < 9 → wr.frozen? ⟨w.heap.size, j, none⟩ = false
  old : Below w.heap.size w wr

theorem Buf.set {w wr : World} {g : Nat → Int} (h : Buf w wr g) (k : Nat) (hk : k < 9) (v : Int) : Buf w (wr.setCell ⟨w.heap.size, k, none⟩ (.int .u8 v)) (put g k v) where
  cell := by
    intro j hj
    unfold put
    by_cases e : j = k
    · subst e
      rw [if_pos rfl, World.cell?_setCell_same _ _ _ (h.cell j hj)]
    · rw [if_neg e, World.cell?_setCell_other _ _ _ _ (by intro c; injection c with _ c2; exact e c2.symm), h.cell j hj]
  free := fun j hj => by rw [World.frozen?_setCell]; exact h.free j hj
  old := h.old.setCell (Nat.le_refl _) _

theorem buf_start (w : World) : Buf w (w.alloc (.cells #[.int .u8 0, .int .u8 0, .int .u8 0, .int .u8 0, .int .u8 0, .int .u8 0, .int .u8 0, .int .u8 0, .int .u8 0] 27)) (fun _ => 0) where
  cell := by
    intro j hj
    match j, hj with
    | 0, _ => simp
    | 1, _ => simp
    | 2, _ => simp
    | 3, _ => simp
    | 4, _ => simp
    | 5, _ => simp
    | 6, _ => simp
    | 7, _ => simp
    | 8, _ => simp
  free := by
    intro j hj
    simp
  old := (Below.refl _ _).alloc (Nat.le_refl _) _

theorem arrayLen27 : Try.prog.arrayLen 27 = 9 := by kernel_rfl
theorem elem27 : Try.prog.elem 27 = 5 := by kernel_rfl
theorem under27 : Try.prog.underlying 27 = some (.array (Try.prog.arrayLen 27) (Try.prog.elem 27)) := by kernel_rfl
theorem size5 (w : World) : (sizeOf 5).run Try.prog w = .ok 1 w := by kernel_rfl
theorem slice_from (b k : Nat) (hk : k < 9) (w : World) :
    (Instr.sliceAt 27 (.pointer (some ⟨b, 0, none⟩)) (some (.int .i64 (k : Int))) none none).run Try.prog w = .ok (.slice (some ⟨b, k, none⟩) (9 - k) (9 - k)) w := by
  rw [run_sliceAt_array_l w 27 ⟨b, 0, none⟩ under27 .i64 (k : Int) (by omega) (by rw [arrayLen27]; omega), arrayLen27, elem27, size5]
  simp only [Result.andThen, slicedAt, Int.toNat_natCast]
  rw [if_neg (by omega)]
  simp [Addr.add]
  intro h; exact h.symm
theorem slice_whole (b : Nat) (w : World) :
    (Instr.sliceAt 27 (.pointer (some ⟨b, 0, none⟩)) none none none).run Try.prog w = .ok (.slice (some ⟨b, 0, none⟩) 9 9) w := by
  rw [run_sliceAt_array_all w 27 ⟨b, 0, none⟩ under27, arrayLen27, elem27, size5]
  simp [Result.andThen, slicedAt, Addr.add]

set_option maxHeartbeats 400000 in
theorem round_walk (n : Int) (w : World) (h0 : 0 ≤ n) (h9 : n ≤ 999999999) :
    Calls Try.prog 4 #[.int .i64 n] w fun e w' => e = .returned (.bool true) ∧ Below w.heap.size w w' := by
  go_enter Try.func4, Try.ntmps4
  go_wp2
  go_loopw [4] (fun i wr => ∃ (k : Nat) (g : Nat → Int), k ≤ 9 ∧ i = .int .i64 k ∧ Buf w wr g ∧ ∀ j, j < k → g j = 48) (fun i _ => 9 - (intOf i).toNat)
  case atStart =>
    refine ⟨0, fun _ => 0, by omega, rfl, ?_, by omega⟩
    exact buf_start w
  case round =>
    obtain ⟨k, g, hk, rfl, hb, hg⟩ := hrel
    by_cases hlt : k < 9
    · have hck := hb.cell k hlt
      have hfk := hb.free k hlt
      go_wp2
      go_roundw
      case rel =>
        refine ⟨k + 1, put g k 48, by omega, by go_num, hb.set k hlt 48, ?_⟩
        intro j hj
        unfold put
        split
        · rfl
        · exact hg j (by omega)
      case measure => simp [intOf]; omega
    · obtain rfl : k = 9 := by omega
      go_wp2
      go_loopw [5, 6] (fun t i wx => ∃ (k : Nat) (m : Int) (G : Nat → Int), t = .int .i64 m ∧ i = .int .i64 k ∧ Buf w wx G ∧ Left9 n G k m) (fun _ i _ => (intOf i).toNat)
      case atStart => exact ⟨9, n, g, rfl, rfl, hb, Left9.start h0 h9 hg⟩
      case round =>
        obtain ⟨k, m, G, rfl, rfl, hB, hL⟩ := hrel
        have hp := hL.pos
        have hk9 := hL.k9
        have hm0 := hL.m0
        have hm9 := hL.small
        obtain ⟨k, rfl⟩ : ∃ q, k = q + 1 := ⟨k - 1, by omega⟩
        have hck := hB.cell k (by omega)
        have hfk := hB.free k (by omega)
        by_cases hz : m / 10 = 0
        · have hz' : (m / 10 == 0) = true := by rw [hz]; rfl
          have hl := hL.last hz
          have hB' := hB.set k (by omega) (48 + m % 10)
          have hs1 := slice_from w.heap.size k (by omega)
          have hs2 := slice_whole w.heap.size
          have hbd : ∀ j, j < 9 → 0 ≤ put G k (48 + m % 10) j ∧ put G k (48 + m % 10) j ≤ 255 := fun j hj => by have := put_dig (k := k) (m := m) hL.dig j hj; omega
          have HL := hide hl
          have HB' := hide hB'
          have HBD := hide hbd
          clear hz hl hB' hB hL hb hg hbd
          go_wp2_with fail
          refine (zzparse_read w.heap.size k (9 - k) (9 - k) (fun i => put G k (48 + m % 10) (k + i)) _ (by omega) (by omega) (fun i hi => HBD.out _ (by omega)) (fun i hi => HB'.out.cell (k + i) (by omega))).mono ?_
          rintro e w' ⟨rfl, rfl⟩
          rw [HL.out.1]
          go_wp2_with fail
          refine (zzparse_read w.heap.size 0 9 9 (put G k (48 + m % 10)) _ (by omega) (by omega) HBD.out (fun i hi => by rw [Nat.zero_add]; exact HB'.out.cell i (by omega))).mono ?_
          rintro e w' ⟨rfl, rfl⟩
          rw [HL.out.2]
          go_wp2
          go_ret
          exact ⟨rfl, HB'.out.old⟩
        · have hz' : (m / 10 == 0) = false := by rw [beq_eq_false_iff_ne]; exact hz
          have hN := hL.next hz
          have hB' := hB.set k (by omega) (48 + m % 10)
          have HN := hide hN
          have HB' := hide hB'
          clear hz hN hB'
          go_wp2
          go_roundw
          case rel => exact ⟨k, m / 10, put G k (48 + m % 10), rfl, rfl, HB'.out, HN.out⟩
          case measure => simp [intOf]

end Go.Proofs.Qxb6601172a
