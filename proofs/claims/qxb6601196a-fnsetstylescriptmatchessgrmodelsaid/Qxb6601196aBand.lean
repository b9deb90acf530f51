import Derived.Test.Qxb6601196aSty
namespace Go.Proofs.Qxb6601196a
open Go.ChangeShapes Go.WideShapes Go.ChangeAt Go.RowKit Go.Deep
set_option linter.unusedVariables false

theorem inBand_yes (c lo : Int) (w : World) (h1 : lo ≤ c) (h2 : c ≤ lo + 7) (hl : 0 ≤ lo ∧ lo ≤ 1000) : Calls Try.prog 39 #[.int .i64 c, .int .i64 lo] w fun e w' => e = .returned (.bool true) ∧ w' = w := by
  go_enter Try.func39, Try.ntmps39
  go_wp2_with fail
  go_ret
  exact ⟨rfl, rfl⟩
theorem inBand_no (c lo : Int) (w : World) (h : c < lo ∨ lo + 7 < c) (hl : 0 ≤ lo ∧ lo ≤ 1000) : Calls Try.prog 39 #[.int .i64 c, .int .i64 lo] w fun e w' => e = .returned (.bool false) ∧ w' = w := by
  go_enter Try.func39, Try.ntmps39
  rcases h with h | h
  · go_wp2_with fail
    go_ret
    exact ⟨rfl, rfl⟩
  · go_wp2_with fail
    go_ret
    exact ⟨congrArg (fun b => Ending.returned (.bool b)) (decide_eq_false (by omega)), rfl⟩
theorem palette_low (c : Int) (w : World) (h : 0 ≤ c ∧ c < 90) : Calls Try.prog 40 #[.int .i64 c] w fun e w' => e = .returned (colV (1, c % 10, 0, 0, 0)) ∧ Below w.heap.size w w' := by
  go_enter Try.func40, Try.ntmps40
  go_wp2_with fail
  exact bodyPost_ret (v := .agg #[.int .u8 1, .int .u8 (c % 10), .int .u8 0, .int .u8 0, .int .u8 0]) (by simp [results, Try.results40, go_sem]) rfl ⟨rfl, (Below.refl _ _).alloc (Nat.le_refl _) _⟩
theorem palette_high (c : Int) (w : World) (h : 90 ≤ c ∧ c < 200) : Calls Try.prog 40 #[.int .i64 c] w fun e w' => e = .returned (colV (1, c % 10 + 8, 0, 0, 0)) ∧ Below w.heap.size w w' := by
  go_enter Try.func40, Try.ntmps40
  go_wp2_with fail
  exact bodyPost_ret (v := .agg #[.int .u8 1, .int .u8 (c % 10 + 8), .int .u8 0, .int .u8 0, .int .u8 0]) (by simp [results, Try.results40, go_sem]) rfl ⟨rfl, (Below.refl _ _).alloc (Nat.le_refl _) _⟩
end Go.Proofs.Qxb6601196a
