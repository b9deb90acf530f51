import Derived.Test.Qxb6601196aTree
import Derived.Deep.RegionWith
import Derived.Deep.Cut
import Derived.Deep.CutRange
namespace Go.Proofs.Qxb6601196a
open Go.ChangeShapes Go.WideShapes Go.ChangeAt Go.RowKit Go.Deep

/-! ### low contracts: sizeOf, columns, resize -/
/-- what sizeOf reads behind a pointer -/
def SizeIs (w : World) (u : Option Addr) (s : Int) : Prop := (u = none ∧ s = 0) ∨ ∃ b, u = some ⟨b, 0, none⟩ ∧ w.cell? ⟨b, 3, none⟩ = some (.int .i64 s)

theorem sizeOf_any (u : Option Addr) (s : Int) (w : World) (h : SizeIs w u s) :
    Calls Try.prog 44 #[.pointer u] w fun e w' => e = .returned (.int .i64 s) ∧ w' = w := by
  rcases h with ⟨rfl, rfl⟩ | ⟨b, rfl, hc⟩
  · go_enter Try.func44, Try.ntmps44
    go_wp2
    go_ret
    exact ⟨rfl, rfl⟩
  · go_enter Try.func44, Try.ntmps44
    go_wp2
    go_ret
    exact ⟨rfl, rfl⟩

/-- the columns of a piece of its own -/
def colsV (cs : Option Addr) (n : Nat) (bl : Int) : Int := if cs.isNone then bl else n

theorem columns_any (b : Nat) (cs : Option Addr) (n c : Nat) (bl : Int) (w : World) (h4 : w.cell? ⟨b, 4, none⟩ = some (.slice cs n c)) (h5 : w.cell? ⟨b, 5, none⟩ = some (.int .i64 bl)) :
    Calls Try.prog 45 #[.pointer (some ⟨b, 0, none⟩)] w fun e w' => e = .returned (.int .i64 (colsV cs n bl)) ∧ w' = w := by
  cases cs with
  | none =>
    have hnn := fun w => run_neq_slice_nil_any (P := Try.prog) w 83 87 none n c 0 0 Try.underlying83
    go_enter Try.func45, Try.ntmps45
    go_wp2
    go_ret
    exact ⟨rfl, rfl⟩
  | some x =>
    have hnn := fun w => run_neq_slice_nil_any (P := Try.prog) w 83 87 (some x) n c 0 0 Try.underlying83
    go_enter Try.func45, Try.ntmps45
    go_wp2
    go_ret
    exact ⟨rfl, rfl⟩

theorem wrap_id (x : Int) (h : -9223372036854775808 ≤ x ∧ x ≤ 9223372036854775807) : IntKind.i64.wrap x = x := by
  rw [IntKind.wrap_i64]; omega

set_option maxHeartbeats 400000 in
theorem resize_any (b : Nat) (u1 u2 : Option Addr) (s1 s2 s0 c : Int) (w : World) (h0 : w.cell? ⟨b, 0, none⟩ = some (.pointer u1)) (h1 : w.cell? ⟨b, 1, none⟩ = some (.pointer u2)) (h3 : w.cell? ⟨b, 3, none⟩ = some (.int .i64 s0)) (f3 : w.frozen? ⟨b, 3, none⟩ = false)
    (k1 : ∀ w', Like w' w → Calls Try.prog 44 #[.pointer u1] w' fun e w'' => e = .returned (.int .i64 s1) ∧ w'' = w')
    (k2 : ∀ w', Like w' w → Calls Try.prog 44 #[.pointer u2] w' fun e w'' => e = .returned (.int .i64 s2) ∧ w'' = w')
    (k3 : ∀ w', Like w' w → Calls Try.prog 45 #[.pointer (some ⟨b, 0, none⟩)] w' fun e w'' => e = .returned (.int .i64 c) ∧ w'' = w')
    (b1 : 0 ≤ s1 ∧ s1 ≤ 1073741824) (b2 : 0 ≤ s2 ∧ s2 ≤ 1073741824) (b3 : 0 ≤ c ∧ c ≤ 1073741824) :
    Calls Try.prog 42 #[.pointer (some ⟨b, 0, none⟩)] w fun e w' => e = .returned (.tuple #[]) ∧ Like w' (w.setCell ⟨b, 3, none⟩ (.int .i64 (s1 + c + s2))) := by
  have K1 := hide k1
  have K2 := hide k2
  have K3 := hide k3
  have HW := hide (show IntKind.i64.wrap (IntKind.i64.wrap (s1 + c) + s2) = s1 + c + s2 by rw [wrap_id (s1 + c) (by omega), wrap_id _ (by omega)])
  clear k1 k2 k3
  go_enter Try.func42, Try.ntmps42
  go_wp2_with fail
  go_region_with (first | (go_at_call_of 44 (Value.pointer u1); refine (K1.out _ ?_).mono ?_; exact ⟨rfl, rfl, rfl, rfl⟩; rintro e w' ⟨rfl, rfl⟩) | (go_at_call_of 44 (Value.pointer u2); refine (K2.out _ ?_).mono ?_; exact ⟨rfl, rfl, rfl, rfl⟩; rintro e w' ⟨rfl, rfl⟩) | (go_at_call 45; refine (K3.out _ ?_).mono ?_; exact ⟨rfl, rfl, rfl, rfl⟩; rintro e w' ⟨rfl, rfl⟩))
  all_goals (go_end0; exact ⟨rfl, by rw [HW.out]; exact ⟨rfl, rfl, rfl, rfl⟩⟩)

end Go.Proofs.Qxb6601196a
