import Derived.Test.Qxb6601196aLaw7
import Derived.Deep.Matrix
import Derived.WalkKit
import Derived.ProofKit
import Derived.OpenShut
import Derived.ShutString
import Derived.ChangeOld
import Derived.Below
namespace Go.Proofs.Qxb6601196a.fnSetStyleScriptMatchesSGRModel
open Go.ChangeShapes Go.WideShapes Go.ChangeAt Go.RowKit
set_option linter.unusedVariables false

theorem own : ownKnob Try.prog.godebug = none := by kernel_rfl
theorem laidOut : laidOutB Try.prog = true := by kernel_rfl
theorem cells22 : Try.prog.cellsOf 22 = 1 := by kernel_rfl
theorem cells3 : Try.prog.cellsOf 3 = 1 := by kernel_rfl

/-- what the walk is told of a script that came in -/
theorem opened {H : Type} {enc : TypeId × Value → H} {W : World} {a : Option Addr} {n c : Nat} {d : DataW H} {p : List MemPlace} (h : DataW.Trod enc Try.prog W 0 (fun _ => true) true 48 (.slice a n c) d p) :
    ∃ (A : Nat → Option Addr) (Ln C : Nat → Nat) (Z : Nat → Nat → Int), Mat W a n A Ln C Z ∧ (a = none → n = 0 ∧ c = 0) ∧ (∀ r, r < n → Ln r ≤ maxLen) ∧ n ≤ maxLen := by
  obtain ⟨fuel, hf⟩ := h
  rcases Go.Deep.open_int_rows Try.underlying48 Try.underlying22 Try.underlying3 cells22 cells3 hf with ⟨hcs, _⟩ | ⟨x, l, cp, A, L, C, Z, hcs, _, hl, hm, _, hrows⟩
  · simp [Value.cells] at hcs
    obtain ⟨rfl, rfl, rfl⟩ := hcs
    exact ⟨fun _ => none, fun _ => 0, fun _ => 0, fun _ _ => 0, ⟨fun r hr => absurd hr (Nat.not_lt_zero _), fun r hr => absurd hr (Nat.not_lt_zero _)⟩, fun _ => ⟨rfl, rfl⟩, fun r hr => absurd hr (Nat.not_lt_zero _), Nat.zero_le _⟩
  · simp [Value.cells] at hcs
    obtain ⟨rfl, rfl, rfl⟩ := hcs
    refine ⟨A, L, C, fun r k => (Z r).getD k 0, ⟨fun r hr => ⟨x, rfl, (hrows r (by omega)).1⟩, fun r hr => ?_⟩, (fun e => by cases e), fun r hr => ?_, by omega⟩
    · obtain ⟨_, h1, _, _, _, h5, h6⟩ := hrows r (by omega)
      cases hA : A r with
      | none =>
        have := h5 hA
        exact .inl ⟨rfl, by omega, this⟩
      | some y => exact .inr ⟨y, rfl, fun k hk => (h6 y hA).2 k (by omega)⟩
    · obtain ⟨_, h1, h2, _⟩ := hrows r (by omega)
      omega

set_option maxRecDepth 100000 in
theorem lifted (os : Os) (started : os.Started) (H : Type) (enc : TypeId × Value → H) :
    ReturnsInHanded {} Try.checked os 7 .any (Rows.fnSetStyleScriptMatchesSGRModelSpec.pre6 enc Try.prog Try.f7 Rows.fnSetStyleScriptMatchesSGRModelRow.domain false) (Rows.fnSetStyleScriptMatchesSGRModelSpec.post enc Try.prog Try.f7 false true false false) := by
  refine returnsInHanded_of_change (C := Try.checked) own started (by kernel_rfl) Try.func7
    (ChangeSpec.witness6 (enc := enc) (C := Try.checked) false ⟨#[], #[.slice none 0 0], []⟩ 8 (by kernel_rfl) (by kernel_rfl) (by kernel_rfl) (by kernel_rfl)) ?_
  intro W base args ds gs before hval0 hW hcnd _
  have hval : ∀ (j : Nat) t v, Try.f7.params[j]? = some t → args[j]? = some v → Value.okWide Try.prog W .any base t v := hval0
  have hW' := hW
  obtain ⟨p, q, hA0, hV, rfl, hfz, hnd⟩ := hW
  have hA : DataW.TrodAll enc Try.prog W 0 (fun _ => true) true Try.f7.params.toList args.toList ds p := hA0
  rw [Try.params7] at hA hval
  obtain ⟨v0, vs0, d0, ds0, p0, q0, hargs, rfl, rfl, h0, r0⟩ := trodAll_cons hA
  obtain ⟨rfl, rfl, rfl⟩ := trodAll_nil r0
  obtain rfl : args = #[v0] := by cases args; simp_all
  obtain ⟨rfl, rfl⟩ := trodVars_none hV
  obtain ⟨a0, len0, cap0, rfl⟩ := okWide_slice Try.underlying48 (hval 0 48 v0 rfl rfl)
  have k0 := h0
  have lt0 : ∀ x ∈ p0, x.block < W.heap.size := by obtain ⟨m, hm⟩ := k0; exact DataW.trod_lt m _ _ _ hm
  obtain ⟨A, Ln, C, Z, hM, hz, hl, hn⟩ := opened h0
  clear hA0 hval0
  have walk := law7_main a0 len0 cap0 A Ln C Z W hM hz hl hn
  refine walk.mono fun e W' ⟨he, bel⟩ => ?_
  subst he
  exact ⟨_, rfl, _, _, _, [], _, [], hW', trodAll_mk1 (shut_bool Try.underlying4 _), trodAll_mk1 (Below.trod laidOut (by kernel_rfl) (of_decide_eq_true (by kernel_rfl)) k0 bel lt0), rfl, bel.frame _, fun h => by cases h⟩

theorem over : Rows.fnSetStyleScriptMatchesSGRModelRow.holds Try.pinned (OpenSpec.ofChange Rows.fnSetStyleScriptMatchesSGRModelSpec) :=
  OpenClaim.holds_of_wide 7 Try.f7 rfl rfl rfl rfl rfl rfl rfl ⟨rfl, rfl, rfl, rfl, rfl⟩ rfl rfl rfl rfl rfl (by kernel_rfl) Try.func7 (by kernel_rfl)
    (of_decide_eq_true (by kernel_rfl)) (by unfold Func.isWrapper; first | (rw [if_pos (by decide +kernel)]; kernel_rfl) | (rw [if_neg (by decide +kernel)]; exact ⟨rfl, rfl⟩))
    (fun os started H enc _ => lifted os started H enc)

/-- the statement -/
theorem proved : Rows.FnSetStyleScriptMatchesSGRModelSaid := over
end Go.Proofs.Qxb6601196a.fnSetStyleScriptMatchesSGRModel
