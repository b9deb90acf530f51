import Derived.Test.Qxb6601196aExt
import Derived.Deep.DeepCutAuto
import Derived.Laws.StructEq
import Derived.Maps.OwnSet
import Derived.DeepKeys4
namespace Go.Proofs.Qxb6601196a
open Go.ChangeShapes Go.WideShapes Go.ChangeAt Go.RowKit Go.Deep
set_option linter.unusedVariables false

/-- a style: the two colours, the four marks -/
structure Sty where
  fg : Col
  bg : Col
  bo : Bool
  di : Bool
  it : Bool
  ul : Bool
deriving DecidableEq
def Sty.zero : Sty := ⟨Col.zero, Col.zero, false, false, false, false⟩
def styC (s : Sty) : Array Value := #[.int .u8 s.fg.1, .int .u8 s.fg.2.1, .int .u8 s.fg.2.2.1, .int .u8 s.fg.2.2.2.1, .int .u8 s.fg.2.2.2.2,
  .int .u8 s.bg.1, .int .u8 s.bg.2.1, .int .u8 s.bg.2.2.1, .int .u8 s.bg.2.2.2.1, .int .u8 s.bg.2.2.2.2, .bool s.bo, .bool s.di, .bool s.it, .bool s.ul]
def styV (s : Sty) : Value := .agg (styC s)

theorem fields59 : Try.prog.underlying 59 = some (.struct (Try.prog.fieldsOf 59)) := by kernel_rfl
theorem fields27 : Try.prog.underlying 27 = some (.struct (Try.prog.fieldsOf 27)) := by kernel_rfl
theorem stood59 : Try.prog.stoodInHeld 59 = false := by kernel_rfl
theorem stood27 : Try.prog.stoodInHeld 27 = false := by kernel_rfl

theorem eq27 (d : Nat) (a b : Col) (w : World) : (Op.equalIn (d + 2) 27 (colV a) (colV b)).run Try.prog w = .ok (decide (a = b)) w := by
  unfold colV
  rw [run_equalIn_agg _ _ _ _ _ fields27 stood27]
  simp [Program.fieldsOf, Try.underlying27, Op.eqFields, go_sem]
  obtain ⟨a1, a2, a3, a4, a5⟩ := a
  obtain ⟨b1, b2, b3, b4, b5⟩ := b
  simp only [Prod.mk.injEq]
  by_cases h1 : a1 = b1 <;> by_cases h2 : a2 = b2 <;> by_cases h3 : a3 = b3 <;> by_cases h4 : a4 = b4 <;> by_cases h5 : a5 = b5 <;> simp [h1, h2, h3, h4, h5]

theorem and_ite {α : Type} (p q : Prop) [Decidable p] [Decidable q] (a b : α) : (if p then (if q then a else b) else b) = if p ∧ q then a else b := by
  by_cases hp : p <;> by_cases hq : q <;> simp [hp, hq]

theorem eq59 (s t : Sty) (w : World) : (Op.equalIn 10000 59 (styV s) (styV t)).run Try.prog w = .ok (decide (s = t)) w := by
  unfold styV
  rw [run_equalIn_agg _ _ _ _ _ fields59 stood59]
  simp [Program.fieldsOf, Try.underlying59, Op.eqFields, go_sem, styC]
  simp only [and_ite]
  by_cases h : s = t
  · subst h
    simp
  · rw [if_neg]
    · rw [decide_eq_false h]
    · rintro ⟨h1, h2, h3, h4, h5, h6, h7, h8, h9, h10, h11, h12, h13, h14⟩
      apply h
      obtain ⟨⟨a1, a2, a3, a4, a5⟩, ⟨b1, b2, b3, b4, b5⟩, m1, m2, m3, m4⟩ := s
      obtain ⟨⟨a1', a2', a3', a4', a5'⟩, ⟨b1', b2', b3', b4', b5'⟩, m1', m2', m3', m4'⟩ := t
      simp only at h1 h2 h3 h4 h5 h6 h7 h8 h9 h10 h11 h12 h13 h14
      subst h1 h2 h3 h4 h5 h6 h7 h8 h9 h10 h11 h12 h13 h14
      rfl

theorem cells59 : Try.prog.cellsOf 59 = 14 := by kernel_rfl
theorem row59 : 59 < Try.prog.types.size := of_decide_eq_true (by kernel_rfl)
theorem laid59 : laidOutB Try.prog = true := by kernel_rfl
theorem law59 : Maps.Keyed Try.prog 59 := Maps.Keyed.of_law (deep_law_laid laid59 (m := 3) (by omega) row59 (by kernel_rfl) (by kernel_rfl))
theorem zero44 (w : World) : (zeroValue 44).run Try.prog w = .ok (.int .u32 0) w := by kernel_rfl

/-- the facts that a walk wants of a style in block X -/
structure StyAt (w : World) (X o : Nat) (s : Sty) : Prop where
  c0 : w.cell? ⟨X, o, none⟩ = some (.int .u8 s.fg.1)
  c1 : w.cell? ⟨X, o + 1, none⟩ = some (.int .u8 s.fg.2.1)
  c2 : w.cell? ⟨X, o + 2, none⟩ = some (.int .u8 s.fg.2.2.1)
  c3 : w.cell? ⟨X, o + 3, none⟩ = some (.int .u8 s.fg.2.2.2.1)
  c4 : w.cell? ⟨X, o + 4, none⟩ = some (.int .u8 s.fg.2.2.2.2)
  c5 : w.cell? ⟨X, o + 5, none⟩ = some (.int .u8 s.bg.1)
  c6 : w.cell? ⟨X, o + 6, none⟩ = some (.int .u8 s.bg.2.1)
  c7 : w.cell? ⟨X, o + 7, none⟩ = some (.int .u8 s.bg.2.2.1)
  c8 : w.cell? ⟨X, o + 8, none⟩ = some (.int .u8 s.bg.2.2.2.1)
  c9 : w.cell? ⟨X, o + 9, none⟩ = some (.int .u8 s.bg.2.2.2.2)
  c10 : w.cell? ⟨X, o + 10, none⟩ = some (.bool s.bo)
  c11 : w.cell? ⟨X, o + 11, none⟩ = some (.bool s.di)
  c12 : w.cell? ⟨X, o + 12, none⟩ = some (.bool s.it)
  c13 : w.cell? ⟨X, o + 13, none⟩ = some (.bool s.ul)
  fr : ∀ j, w.frozen? ⟨X, j, none⟩ = false

/-- a style that lies in a block of its own -/
def StyIn (w : World) (X : Nat) (s : Sty) : Prop := w.heap[X]? = some (.cells (styC s) 59 (0, 0))
theorem StyIn.at {w : World} {X : Nat} {s : Sty} (h : StyIn w X s) : StyAt w X 0 s where
  c0 := by rw [cell_of_row w X _ _ _ _ h]; rfl
  c1 := by rw [cell_of_row w X _ _ _ _ h]; rfl
  c2 := by rw [cell_of_row w X _ _ _ _ h]; rfl
  c3 := by rw [cell_of_row w X _ _ _ _ h]; rfl
  c4 := by rw [cell_of_row w X _ _ _ _ h]; rfl
  c5 := by rw [cell_of_row w X _ _ _ _ h]; rfl
  c6 := by rw [cell_of_row w X _ _ _ _ h]; rfl
  c7 := by rw [cell_of_row w X _ _ _ _ h]; rfl
  c8 := by rw [cell_of_row w X _ _ _ _ h]; rfl
  c9 := by rw [cell_of_row w X _ _ _ _ h]; rfl
  c10 := by rw [cell_of_row w X _ _ _ _ h]; rfl
  c11 := by rw [cell_of_row w X _ _ _ _ h]; rfl
  c12 := by rw [cell_of_row w X _ _ _ _ h]; rfl
  c13 := by rw [cell_of_row w X _ _ _ _ h]; rfl
  fr := fun j => frozen_of_row w X j _ _ h

end Go.Proofs.Qxb6601196a
