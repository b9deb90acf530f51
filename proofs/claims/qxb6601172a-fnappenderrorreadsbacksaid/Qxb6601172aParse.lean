import Derived.Test.Qxb6601172aRows
import Derived.WalkKit
import Derived.ProofKit
import Derived.OpenShut
import Derived.ShutString
import Derived.WalkSpells
namespace Go.Proofs.Qxb6601172a
open Go.ChangeShapes Go.WideShapes Go.ChangeAt Go.RowKit

theorem hide {p : Prop} (h : p) : Hid p := h

/-- the number that the first k bytes spell, left to right -/
def pval (f : Nat → Int) : Nat → Int
  | 0 => 0
  | k + 1 => pval f k * 10 + (f k - 48)
/-- are the first k bytes all digits? -/
def pok (f : Nat → Int) : Nat → Bool
  | 0 => true
  | k + 1 => pok f k && decide (48 ≤ f k ∧ f k ≤ 57)
/-- what parseLength answers of n bytes f -/
def pans (f : Nat → Int) (n : Nat) : Int × Bool :=
  if n = 0 ∨ 9 < n then (0, false) else if pok f n then (pval f n, true) else (0, false)

theorem pok_succ (f : Nat → Int) (k : Nat) (h : pok f k = true) (a : 48 ≤ f k) (b : f k ≤ 57) : pok f (k + 1) = true := by
  simp [pok, h, a, b]
theorem pok_at (f : Nat → Int) (n : Nat) (h : pok f n = true) : ∀ k, k < n → 48 ≤ f k ∧ f k ≤ 57 := by
  induction n with
  | zero => intro k hk; omega
  | succ n ih =>
    simp [pok] at h
    intro k hk
    by_cases e : k = n
    · subst e; exact h.2
    · exact ih h.1 k (by omega)
theorem pok_of (f : Nat → Int) (n : Nat) (h : ∀ k, k < n → 48 ≤ f k ∧ f k ≤ 57) : pok f n = true := by
  induction n with
  | zero => rfl
  | succ n ih => exact pok_succ f n (ih fun k hk => h k (by omega)) (h n (by omega)).1 (h n (by omega)).2
theorem pok_not (f : Nat → Int) (n k : Nat) (hk : k < n) (h : ¬ (48 ≤ f k ∧ f k ≤ 57)) : pok f n = false := by
  cases e : pok f n with
  | false => rfl
  | true => exact absurd (pok_at f n e k hk) h
theorem pval_bd (f : Nat → Int) (k : Nat) (h : pok f k = true) : 0 ≤ pval f k ∧ pval f k < 10 ^ k := by
  induction k with
  | zero => simp [pval]
  | succ k ih =>
    have h1 : pok f k = true := by simp [pok] at h; exact h.1
    have h2 := pok_at f (k + 1) h k (by omega)
    have := ih h1
    simp only [pval]
    rw [Int.pow_succ]
    omega
theorem pval_small (f : Nat → Int) (k : Nat) (hk : k ≤ 9) (h : pok f k = true) : 0 ≤ pval f k ∧ pval f k ≤ 999999999 := by
  have := pval_bd f k h
  have : (10 : Int) ^ k ≤ 10 ^ 9 := by
    match k, hk with
    | 0, _ => decide
    | 1, _ => decide
    | 2, _ => decide
    | 3, _ => decide
    | 4, _ => decide
    | 5, _ => decide
    | 6, _ => decide
    | 7, _ => decide
    | 8, _ => decide
    | 9, _ => decide
  have h9 : (10 : Int) ^ 9 = 1000000000 := by decide
  omega

theorem parse_short (a : Option Addr) (n c : Nat) (w : World) (h : n = 0 ∨ 9 < n) (hn : n ≤ maxLen) :
    Calls Try.prog 26 #[.slice a n c] w fun e w' => e = .returned (.tuple #[.int .i64 0, .bool false]) ∧ w' = w := by
  unfold maxLen at hn
  rcases h with rfl | h
  · go_enter Try.func26, Try.ntmps26
    go_wp2
    go_ret2
    exact ⟨rfl, rfl⟩
  · have h0 : ((n : Int) == 0) = false := by rw [beq_eq_false_iff_ne]; omega
    go_enter Try.func26, Try.ntmps26
    go_wp2
    go_ret2
    exact ⟨rfl, rfl⟩

set_option maxHeartbeats 400000 in
theorem parse_read (b off n c : Nat) (f : Nat → Int) (w : World) (h1 : 1 ≤ n) (h9 : n ≤ 9) (hb : ∀ k, k < n → 0 ≤ f k ∧ f k ≤ 255)
    (hc : ∀ k, k < n → w.cell? ⟨b, off + k, none⟩ = some (.int .u8 (f k))) :
    Calls Try.prog 26 #[.slice (some ⟨b, off, none⟩) n c] w fun e w' => e = .returned (.tuple #[.int .i64 (pans f n).1, .bool (pans f n).2]) ∧ w' = w := by
  have h0 : ((n : Int) == 0) = false := by rw [beq_eq_false_iff_ne]; omega
  have hgt : ¬ (9 : Int) < (n : Int) := by omega
  go_enter Try.func26, Try.ntmps26
  go_wp2
  go_loop [4, 17] (fun v i => ∃ k : Nat, k ≤ n ∧ i = .int .i64 k ∧ v = .int .i64 (pval f k) ∧ pok f k = true) (fun _ i => n - (intOf i).toNat)
  case atStart => exact ⟨0, Nat.zero_le _, rfl, rfl, rfl⟩
  case round =>
    obtain ⟨k, hk, rfl, rfl, hok⟩ := hrel
    have hs := pval_small f k (by omega) hok
    have Hok := hide hok
    clear hok
    by_cases hlt : k < n
    · have hck := hc k hlt
      have hbk := hb k hlt
      by_cases hd : 48 ≤ f k ∧ f k ≤ 57
      · obtain ⟨hd1, hd2⟩ := hd
        go_wp2
        go_round
        case rel => exact ⟨k + 1, by omega, by go_num, rfl, pok_succ f k Hok.out hd1 hd2⟩
        case measure => simp [intOf]; omega
      · have hno : pans f n = (0, false) := by
          unfold pans
          rw [if_neg (by omega), pok_not f n k hlt hd]; rfl
        have Hno := hide hno
        clear hno
        by_cases hd1 : 48 ≤ f k
        · have hd2 : 57 < f k := by omega
          clear hd
          go_wp2
          go_ret2
          rw [Hno.out]
          exact ⟨rfl, rfl⟩
        · clear hd
          go_wp2
          go_ret2
          rw [Hno.out]
          exact ⟨rfl, rfl⟩
    · have hyes : pans f n = (pval f k, true) := by
        obtain rfl : k = n := by omega
        unfold pans
        rw [if_neg (by omega), Hok.out]; rfl
      have Hyes := hide hyes
      clear hyes
      go_wp2
      go_ret2
      rw [Hyes.out]
      exact ⟨rfl, rfl⟩

theorem zzparse_short (a : Option Addr) (n c : Nat) (w : World) (h : n = 0 ∨ 9 < n) (hn : n ≤ maxLen) :
    Calls Try.prog 11 #[.slice a n c] w fun e w' => e = .returned (.tuple #[.int .i64 0, .bool false]) ∧ w' = w := by
  go_enter Try.func11, Try.ntmps11
  go_wp2_with (go_at_call 26; refine (parse_short a n c _ h hn).mono ?_; rintro e w' ⟨rfl, rfl⟩)
  go_ret2
  exact ⟨rfl, rfl⟩

theorem zzparse_read (b off n c : Nat) (f : Nat → Int) (w : World) (h1 : 1 ≤ n) (h9 : n ≤ 9) (hb : ∀ k, k < n → 0 ≤ f k ∧ f k ≤ 255)
    (hc : ∀ k, k < n → w.cell? ⟨b, off + k, none⟩ = some (.int .u8 (f k))) :
    Calls Try.prog 11 #[.slice (some ⟨b, off, none⟩) n c] w fun e w' => e = .returned (.tuple #[.int .i64 (pans f n).1, .bool (pans f n).2]) ∧ w' = w := by
  have HB := hide hb
  have HC := hide hc
  clear hb hc
  go_enter Try.func11, Try.ntmps11
  go_wp2_with (go_at_call 26; refine (parse_read b off n c f _ h1 h9 HB.out HC.out).mono ?_; rintro e w' ⟨rfl, rfl⟩)
  go_ret2
  exact ⟨rfl, rfl⟩

end Go.Proofs.Qxb6601172a
