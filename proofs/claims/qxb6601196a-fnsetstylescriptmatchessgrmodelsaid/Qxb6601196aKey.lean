import Derived.Test.Qxb6601196aSty
import Derived.Maps.AppendAt
namespace Go.Proofs.Qxb6601196a
open Go.ChangeShapes Go.WideShapes Go.ChangeAt Go.RowKit Go.Deep
set_option linter.unusedVariables false

def U8 (x : Int) : Prop := 0 ≤ x ∧ x < 256
def WfC (c : Col) : Prop := U8 c.1 ∧ U8 c.2.1 ∧ U8 c.2.2.1 ∧ U8 c.2.2.2.1 ∧ U8 c.2.2.2.2
def Wf (s : Sty) : Prop := WfC s.fg ∧ WfC s.bg
def lits (s : Sty) : List Lit := [.int .u8 s.fg.1, .int .u8 s.fg.2.1, .int .u8 s.fg.2.2.1, .int .u8 s.fg.2.2.2.1, .int .u8 s.fg.2.2.2.2,
  .int .u8 s.bg.1, .int .u8 s.bg.2.1, .int .u8 s.bg.2.2.1, .int .u8 s.bg.2.2.2.1, .int .u8 s.bg.2.2.2.2, .bool s.bo, .bool s.di, .bool s.it, .bool s.ul]
/-- what a style reads as, as a key -/
def kd (s : Sty) : Lit := .string (keyBytes (lits s))

theorem u8_wf {x : Int} (h : U8 x) : (Lit.int .u8 x).wf = true := by
  obtain ⟨h1, h2⟩ := h
  have e1 : IntKind.u8.min = 0 := by decide
  have e2 : IntKind.u8.max = 255 := by decide
  simp [Lit.wf, e1, e2]
  omega
theorem kt59 : Try.prog.keyType 59 = true := by kernel_rfl
theorem size_types : ∃ m, Try.prog.types.size = m + 2 := ⟨Try.prog.types.size - 2, by kernel_rfl⟩
theorem cells27 : Try.prog.cellsOf 27 = 5 := by kernel_rfl
theorem cells4 : Try.prog.cellsOf 4 = 1 := by kernel_rfl
theorem cells25 : Try.prog.cellsOf 25 = 1 := by kernel_rfl
theorem cells5 : Try.prog.cellsOf 5 = 1 := by kernel_rfl
theorem formed59 (s : Sty) : (styV s).formed Try.prog 59 = true := by simp [styV, styC, Value.formed, Try.underlying59, cells59]

theorem keyLits27 (m : Nat) (c : Col) (h : WfC c) : Try.prog.keyLits (m + 2) 27 [.int .u8 c.1, .int .u8 c.2.1, .int .u8 c.2.2.1, .int .u8 c.2.2.2.1, .int .u8 c.2.2.2.2] = some [.int .u8 c.1, .int .u8 c.2.1, .int .u8 c.2.2.1, .int .u8 c.2.2.2.1, .int .u8 c.2.2.2.2] := by
  obtain ⟨h1, h2, h3, h4, h5⟩ := h
  unfold Program.keyLits
  simp only [Try.underlying27]
  rw [if_pos (by simp [cells27])]
  simp [Program.keyLits, Try.underlying25, Try.underlying5, cells25, cells5, u8_wf h1, u8_wf h2, u8_wf h3, u8_wf h4, u8_wf h5]

theorem keyLits4 (m : Nat) (b : Bool) : Try.prog.keyLits (m + 2) 4 [.bool b] = some [.bool b] := by
  unfold Program.keyLits
  simp only [Try.underlying4]

theorem key59 (s : Sty) (h : Wf s) : keyOf Try.prog 59 (styV s) = some (kd s) := by
  obtain ⟨m, hm⟩ := size_types
  unfold keyOf
  simp only [Try.underlying59]
  rw [if_pos (by simp [kt59, formed59]), hm]
  unfold Program.keyLits
  simp only [Try.underlying59, styV, Value.cells, styC]
  rw [if_pos (by simp [cells59])]
  simp [cells27, cells4, keyLits27 m s.fg h.1, keyLits27 m s.bg h.2, keyLits4, kd, lits]

theorem styV_inj {s t : Sty} (h : styV s = styV t) : s = t := by
  obtain ⟨⟨a1, a2, a3, a4, a5⟩, ⟨b1, b2, b3, b4, b5⟩, m1, m2, m3, m4⟩ := s
  obtain ⟨⟨a1', a2', a3', a4', a5'⟩, ⟨b1', b2', b3', b4', b5'⟩, m1', m2', m3', m4'⟩ := t
  simp only [styV, styC, Value.agg.injEq, Array.mk.injEq, List.cons.injEq, Value.int.injEq, Value.bool.injEq, true_and, and_true] at h
  obtain ⟨h1, h2, h3, h4, h5, h6, h7, h8, h9, h10, h11, h12, h13, h14⟩ := h
  subst h1 h2 h3 h4 h5 h6 h7 h8 h9 h10 h11 h12 h13 h14
  rfl
theorem kd_inj {s t : Sty} (hs : Wf s) (ht : Wf t) (h : kd s = kd t) : s = t := by
  have k1 := key59 s hs
  have k2 := key59 t ht
  rw [← h] at k2
  exact styV_inj (law59.inj k1 k2)
end Go.Proofs.Qxb6601196a
