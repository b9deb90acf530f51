import Derived.Test.Qxb6601172aLine
import Derived.Laws.BytesArg
import Derived.Deep.QuietTactic
import Derived.BigQuiet
import Derived.WalkSmall
namespace Go.Proofs.Qxb6601172a
open Go.ChangeShapes Go.WideShapes Go.ChangeAt Go.RowKit

/-- the slice that came in: nil, or n bytes f behind an address -/
def IsB (w : World) (a : Option Addr) (n c : Nat) (f : Nat → Int) : Prop :=
  (a = none ∧ n = 0 ∧ c = 0) ∨ ∃ x, a = some x ∧ ∀ k, k < n → w.cell? (x.add k) = some (.int .u8 (f k))

theorem owns_nil (w : World) (base : Nat) (f : Nat → Int) : Owns w base (.slice none 0 0) 0 f := World.ownsRow_nil w base 5 1

theorem clone_any (a : Option Addr) (n c : Nat) (f : Nat → Int) (w : World) (hn : n ≤ 1048576) (h : IsB w a n c f) :
    Calls Try.prog 16 #[.slice a n c] w fun e w' => ∃ a', e = .returned (.slice a' n n) ∧ Owns w' w.heap.size (.slice a' n n) n f ∧ Below w.heap.size w w' := by
  rcases h with ⟨rfl, rfl, rfl⟩ | ⟨x, rfl, hc⟩
  · refine (clone_nil w).mono ?_
    rintro e w' ⟨rfl, rfl⟩
    exact ⟨none, rfl, owns_nil _ _ _, Below.refl _ _⟩
  · refine (clone_some x n c f w hn hc).mono ?_
    rintro e w' ⟨rfl, h1, h2, _⟩
    exact ⟨_, rfl, h1, h2⟩

/-- an owned slice is one that a call may be handed -/
theorem Owns.isB {w : World} {base n c : Nat} {a : Option Addr} {F : Nat → Int} (h : Owns w base (.slice a n c) n F) : IsB w a n c F := by
  rcases h.2 with ⟨h1, h2⟩ | ⟨g, cap, cur, hv, _⟩
  · injection h1 with e1 e2 e3
    exact .inl ⟨e1, h2, e3⟩
  · injection hv with e1 e2 e3
    subst e1
    refine .inr ⟨_, rfl, fun k hk => ?_⟩
    rw [add_plain, Nat.zero_add]
    exact h.cell hk

/-! ### string(bytes) -/
theorem to_str (b off n : Nat) (f : Nat → Int) (w : World) (hb : ∀ k, k < n → 0 ≤ f k ∧ f k ≤ 255) (hc : ∀ k, k < n → w.cell? ⟨b, off + k, none⟩ = some (.int .u8 (f k))) :
    ∃ t : ByteArray, t.size = n ∧ (∀ k, k < n → sb t k = f k) ∧ ∀ cap, (convert 22 9 (.slice (some ⟨b, off, none⟩) n cap)).run Try.prog w = .ok (.string t) w := by
  have hx : ∀ k, k < n → ((List.range n).map f).getD k 0 = f k := by
    intro k hk
    simp [List.getD, hk]
  refine ⟨strOfNums ((List.range n).map f), by rw [strOfNums_size]; simp, ?_, ?_⟩
  · intro k hk
    have hs : k < (strOfNums ((List.range n).map f)).size := by rw [strOfNums_size]; simpa using hk
    have hbk := hb k hk
    unfold sb
    rw [dif_pos hs]
    have e : (strOfNums ((List.range n).map f))[k]'hs = UInt8.ofNat (f k).toNat := by
      show (strOfNums ((List.range n).map f)).data[k]'_ = _
      simp [strOfNums]
    rw [e, UInt8.toNat_ofNat']
    omega
  · intro cap
    exact run_convert_bytes_arg w 22 5 Try.underlying22 Try.underlying5 b off n cap ((List.range n).map f) (by simp) (fun i hi => by rw [hx i hi]; exact hc i hi) 9 Try.underlying9

/-! ### zzEqualBytes -/
set_option maxHeartbeats 400000 in
theorem equal_yes (b1 o1 c1 b2 o2 c2 n : Nat) (f1 f2 : Nat → Int) (w : World) (hn : n ≤ 4194304) (h1 : ∀ k, k < n → w.cell? ⟨b1, o1 + k, none⟩ = some (.int .u8 (f1 k))) (h2 : ∀ k, k < n → w.cell? ⟨b2, o2 + k, none⟩ = some (.int .u8 (f2 k))) (he : ∀ k, k < n → f1 k = f2 k) :
    Calls Try.prog 20 #[.slice (some ⟨b1, o1, none⟩) n c1, .slice (some ⟨b2, o2, none⟩) n c2] w fun e w' => e = .returned (.bool true) ∧ Below w.heap.size w w' := by
  have H1 := hide h1
  have H2 := hide h2
  have HE := hide he
  clear h1 h2 he
  go_enter Try.func20, Try.ntmps20
  go_wp2
  go_loopw [5] (fun i wr => ∃ k : Nat, k ≤ n ∧ i = .int .i64 k ∧ Below w.heap.size w wr) (fun i _ => n - (intOf i).toNat)
  case atStart => exact ⟨0, Nat.zero_le _, rfl, Below.refl _ _⟩
  case round =>
    obtain ⟨k, hk, rfl, hbel⟩ := hrel
    by_cases hlt : k < n
    · have g1 : wr.cell? ⟨b1, o1 + k, none⟩ = some (.int .u8 (f1 k)) := by rw [hbel.cell (by exact block_lt_of_cell (H1.out k hlt))]; exact H1.out k hlt
      have g2 : wr.cell? ⟨b2, o2 + k, none⟩ = some (.int .u8 (f1 k)) := by rw [hbel.cell (by exact block_lt_of_cell (H2.out k hlt)), HE.out k hlt]; exact H2.out k hlt
      have hlt' : (k : Int) < (n : Int) := by omega
      have hk0 : (0 : Int) ≤ (k : Int) := by omega
      have HB := hide hbel
      clear hbel
      go_wp2
      go_quiet (fail)
      go_wp2
      go_roundw
      case rel => exact ⟨k + 1, by omega, by go_num, below_drewN HB.out nq⟩
      case measure => simp [intOf]; omega
    · have HB := hide hbel
      clear hbel
      go_wp2
      go_ret
      exact ⟨rfl, HB.out⟩

end Go.Proofs.Qxb6601172a
