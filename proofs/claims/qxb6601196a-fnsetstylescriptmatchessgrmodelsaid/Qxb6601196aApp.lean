import Derived.Test.Qxb6601196aScr
import Derived.Maps.AppendAt
namespace Go.Proofs.Qxb6601196a
open Go.ChangeShapes Go.WideShapes Go.ChangeAt Go.RowKit Go.Deep
set_option linter.unusedVariables false

theorem info59 : (Try.prog.info? 59).map (fun i => (i.zero, i.size, i.bytes)) = some (some (styV Sty.zero), 14, 14) := by kernel_rfl
theorem row_shape {w : World} {base : Nat} {e : TypeId} {size n : Nat} {v : Value} {xs : List Value} (h : w.ownsRow base e size v n xs) : ∃ a c, v = .slice a n c := by
  rcases h.2 with ⟨h1, h2⟩ | ⟨g, cap, cur, hv, _⟩
  · subst h2; exact ⟨none, 0, h1⟩
  · exact ⟨_, _, hv⟩

/-- append of one style to a row of the call's own -/
theorem app_sty (w : World) (B : Nat) (sv : Value) (L : List Sty) (h : w.ownsRow B 59 14 sv L.length (flatS L)) (hl : L.length ≤ 20000) (hB : B ≤ w.heap.size) (s : Sty) :
    ∃ a' c' w', (∀ ty, (Builtin.append_ #[60, 60] ty #[sv, .slice (some ⟨w.heap.size, 0, none⟩) 1 1]).run Try.prog (w.alloc (.cells (styC s) 59)) = .ok (.slice a' (L.length + 1) c') w') ∧
      w'.ownsRow B 59 14 (.slice a' (L.length + 1) c') (L.length + 1) (flatS (L ++ [s])) ∧ (w.alloc (.cells (styC s) 59)).grownBy w' sv.ownBlock ∧
      ((Value.slice a' (L.length + 1) c').ownBlock = sv.ownBlock ∨ (Value.slice a' (L.length + 1) c').ownBlock = some (w.heap.size + 1)) := by
  obtain ⟨i, hi, hz⟩ := Option.map_eq_some_iff.1 info59
  simp only [Prod.mk.injEq] at hz
  have h' := h.alloc (.cells (styC s) 59)
  obtain ⟨v', w', hr, ho, hg, _, hloc⟩ := run_append_own_at (P := Try.prog) (w.alloc (.cells (styC s) 59)) B 60 0 59 i _ 14 14 Try.underlying60 hi hz.1 hz.2.1 hz.2.2 rfl (by decide) sv L.length (flatS L) h' ⟨w.heap.size, 0, none⟩ 1 1 (styC s).toList rfl
    (by intro j u hj
        have hb : (w.alloc (.cells (styC s) 59)).heap[w.heap.size]? = some (.cells (styC s) 59 (0, 0)) := by
          show (w.heap.push _)[w.heap.size]? = _
          simp
        rw [add_plain, Nat.zero_add, cell_of_row _ _ _ _ _ _ hb]
        simpa using hj)
    (by intro u hu; simp [styC] at hu; rcases hu with rfl | rfl | rfl | rfl | rfl | rfl | rfl | rfl | rfl | rfl | rfl | rfl | rfl | rfl <;> rfl) (by unfold maxLen; omega) (by omega) (by simp; omega)
  have hty : ∀ ty, (Builtin.append_ #[60, 60] ty #[sv, .slice (some ⟨w.heap.size, 0, none⟩) 1 1]).run Try.prog (w.alloc (.cells (styC s) 59)) = .ok v' w' := fun ty => hr
  obtain ⟨a', c', rfl⟩ := row_shape ho
  refine ⟨a', c', w', hty, by rw [flatS_snoc]; exact ho, hg, ?_⟩
  rcases hloc with e | e
  · exact .inl e
  · exact .inr (by rw [e]; simp)
end Go.Proofs.Qxb6601196a
