import Derived.Test.Qxb6601196aPut
import Derived.Test.Qxb6601196aBand
namespace Go.Proofs.Qxb6601196a
open Go.ChangeShapes Go.WideShapes Go.ChangeAt Go.RowKit Go.Deep
set_option linter.unusedVariables false

/-- what a code of one of the four bands sets -/
def bandS (c : Int) (s : Sty) : Sty :=
  if 30 ≤ c ∧ c ≤ 37 then { s with fg := (1, c - 30, 0, 0, 0) }
  else if 90 ≤ c ∧ c ≤ 97 then { s with fg := (1, c - 90 + 8, 0, 0, 0) }
  else if 40 ≤ c ∧ c ≤ 47 then { s with bg := (1, c - 40, 0, 0, 0) }
  else if 100 ≤ c ∧ c ≤ 107 then { s with bg := (1, c - 100 + 8, 0, 0, 0) }
  else s
/-- the colour behind code i, and how many codes it takes -/
def extAt (f : Nat → Int) (n i : Nat) : Col × Nat := ext (fun k => f (i + 1 + k)) (n - (i + 1))
/-- how many codes code i takes behind itself -/
def codeN (f : Nat → Int) (n i : Nat) : Nat := if f i = 38 ∨ f i = 48 then (extAt f n i).2 else 0
/-- what any other code sets -/
def codeS (f : Nat → Int) (n i : Nat) (s : Sty) : Sty :=
  if f i = 0 then Sty.zero
  else if f i = 1 then { s with bo := true }
  else if f i = 2 then { s with di := true }
  else if f i = 3 then { s with it := true }
  else if f i = 4 then { s with ul := true }
  else if f i = 22 then { s with bo := false, di := false }
  else if f i = 23 then { s with it := false }
  else if f i = 24 then { s with ul := false }
  else if f i = 39 then { s with fg := Col.zero }
  else if f i = 49 then { s with bg := Col.zero }
  else if f i = 38 then (if (extAt f n i).1.1 = 0 then s else { s with fg := (extAt f n i).1 })
  else if f i = 48 then (if (extAt f n i).1.1 = 0 then s else { s with bg := (extAt f n i).1 })
  else s
theorem ext_le (f : Nat → Int) (n : Nat) : (ext f n).2 ≤ n := by
  unfold ext
  repeat' split
  all_goals simp
  all_goals omega
theorem codeN_le (f : Nat → Int) (n i : Nat) (hi : i < n) : i + 1 + codeN f n i ≤ n := by
  have := ext_le (fun k => f (i + 1 + k)) (n - (i + 1))
  unfold codeN extAt
  split <;> omega
/-- the style behind the codes from i on -/
def runS (f : Nat → Int) (n i : Nat) (s : Sty) : Sty :=
  if i < n then runS f n (i + 1 + codeN f n i) (codeS f n i (bandS (f i) s)) else s
termination_by n - i
theorem runS_step (f : Nat → Int) (n i : Nat) (s : Sty) (h : i < n) : runS f n i s = runS f n (i + 1 + codeN f n i) (codeS f n i (bandS (f i) s)) := by
  rw [runS, if_pos h]
theorem runS_end (f : Nat → Int) (n i : Nat) (s : Sty) (h : n ≤ i) : runS f n i s = s := by
  rw [runS, if_neg (by omega)]

/-- the style stands in block X, nothing below X has turned -/
structure Sgr (w wr : World) (X : Nat) (s : Sty) : Prop where
  st : StyIn wr X s
  bel : Below X w wr
theorem Sgr.drewN {w wr : World} {X : Nat} {s : Sty} (h : Sgr w wr X s) (q : Nat) : Sgr w (wr.drewN q) X s := ⟨h.st, ⟨h.bel.os, h.bel.tape, h.bel.output, h.bel.size, h.bel.block⟩⟩
theorem Sgr.lt {w wr : World} {X : Nat} {s : Sty} (h : Sgr w wr X s) : X < wr.heap.size := (Array.getElem?_eq_some_iff.1 h.st).1
theorem Sgr.alloc {w wr : World} {X : Nat} {s : Sty} (h : Sgr w wr X s) (o : Obj) : Sgr w (wr.alloc o) X s :=
  ⟨by show (wr.alloc o).heap[X]? = _; rw [Below.heap_alloc _ _ _ h.lt]; exact h.st, h.bel.alloc (Nat.le_of_lt h.lt) o⟩
theorem Sgr.below {w wr w' : World} {X : Nat} {s : Sty} (h : Sgr w wr X s) (hb : Below wr.heap.size wr w') : Sgr w w' X s :=
  ⟨by show w'.heap[X]? = _; rw [hb.block X h.lt]; exact h.st, h.bel.trans (hb.mono (Nat.le_of_lt h.lt))⟩
theorem StyIn.set {w : World} {X : Nat} {s t : Sty} (h : StyIn w X s) (i : Nat) (v : Value) (ht : (styC s).set! i v = styC t) : StyIn (w.setCell ⟨X, i, none⟩ v) X t := by
  show (w.setCell ⟨X, i, none⟩ v).heap[X]? = _
  rw [heap_setCell_same w X i _ _ _ h, ← ht]
  rfl
theorem Sgr.set {w wr : World} {X : Nat} {s t : Sty} (h : Sgr w wr X s) (i : Nat) (v : Value) (ht : (styC s).set! i v = styC t) : Sgr w (wr.setCell ⟨X, i, none⟩ v) X t :=
  ⟨h.st.set i v ht, h.bel.setCell (Nat.le_refl _) _⟩
theorem Sgr.fg {w wr : World} {X : Nat} {s : Sty} (h : Sgr w wr X s) (k i r g b : Int) :
    Sgr w (((((wr.setCell ⟨X, 0, none⟩ (.int .u8 k)).setCell ⟨X, 1, none⟩ (.int .u8 i)).setCell ⟨X, 2, none⟩ (.int .u8 r)).setCell ⟨X, 3, none⟩ (.int .u8 g)).setCell ⟨X, 4, none⟩ (.int .u8 b)) X { s with fg := (k, i, r, g, b) } :=
  ((((h.set 0 _ (t := { s with fg := (k, s.fg.2) }) rfl).set 1 _ (t := { s with fg := (k, i, s.fg.2.2) }) rfl).set 2 _ (t := { s with fg := (k, i, r, s.fg.2.2.2) }) rfl).set 3 _ (t := { s with fg := (k, i, r, g, s.fg.2.2.2.2) }) rfl).set 4 _ rfl
theorem Sgr.bg {w wr : World} {X : Nat} {s : Sty} (h : Sgr w wr X s) (k i r g b : Int) :
    Sgr w (((((wr.setCell ⟨X, 5, none⟩ (.int .u8 k)).setCell ⟨X, 6, none⟩ (.int .u8 i)).setCell ⟨X, 7, none⟩ (.int .u8 r)).setCell ⟨X, 8, none⟩ (.int .u8 g)).setCell ⟨X, 9, none⟩ (.int .u8 b)) X { s with bg := (k, i, r, g, b) } :=
  ((((h.set 5 _ (t := { s with bg := (k, s.bg.2) }) rfl).set 6 _ (t := { s with bg := (k, i, s.bg.2.2) }) rfl).set 7 _ (t := { s with bg := (k, i, r, s.bg.2.2.2) }) rfl).set 8 _ (t := { s with bg := (k, i, r, g, s.bg.2.2.2.2) }) rfl).set 9 _ rfl

theorem Sgr.clear {w wr : World} {X : Nat} {s : Sty} (h : Sgr w wr X s) :
    Sgr w ((((((((((((((wr.setCell ⟨X, 0, none⟩ (.int .u8 0)).setCell ⟨X, 1, none⟩ (.int .u8 0)).setCell ⟨X, 2, none⟩ (.int .u8 0)).setCell ⟨X, 3, none⟩ (.int .u8 0)).setCell ⟨X, 4, none⟩ (.int .u8 0)).setCell ⟨X, 5, none⟩ (.int .u8 0)).setCell ⟨X, 6, none⟩ (.int .u8 0)).setCell ⟨X, 7, none⟩ (.int .u8 0)).setCell ⟨X, 8, none⟩ (.int .u8 0)).setCell ⟨X, 9, none⟩ (.int .u8 0)).setCell ⟨X, 10, none⟩ (.bool false)).setCell ⟨X, 11, none⟩ (.bool false)).setCell ⟨X, 12, none⟩ (.bool false)).setCell ⟨X, 13, none⟩ (.bool false)) X Sty.zero :=
  (((((h.fg 0 0 0 0 0).bg 0 0 0 0 0).set 10 _ (t := ⟨Col.zero, Col.zero, false, s.di, s.it, s.ul⟩) rfl).set 11 _ (t := ⟨Col.zero, Col.zero, false, false, s.it, s.ul⟩) rfl).set 12 _ (t := ⟨Col.zero, Col.zero, false, false, false, s.ul⟩) rfl).set 13 _ rfl

/-- the codes: a slice of n, in a block of their own -/
structure Codes (w : World) (a : Option Addr) (n : Nat) (cb : Nat) (f : Nat → Int) : Prop where
  adr : 0 < n → a = some ⟨cb, 0, none⟩
  lt : 0 < n → cb < w.heap.size
  cel : ∀ k, k < n → w.cell? ⟨cb, k, none⟩ = some (.int .i64 (f k))

theorem ext_none_col (f : Nat → Int) (n : Nat) (h : (ext f n).2 = 0) : (ext f n).1 = Col.zero := by
  unfold ext at *
  repeat' split
  all_goals simp_all

/-- what code j does, case by case -/
theorem next_code (f : Nat → Int) (n j : Nat) (s : Sty) (P : Sty → Nat → Prop) (hP : P (codeS f n j (bandS (f j) s)) (codeN f n j)) :
    (f j = 0 → P Sty.zero 0) ∧ (f j = 1 → P { s with bo := true } 0) ∧ (f j = 2 → P { s with di := true } 0) ∧ (f j = 3 → P { s with it := true } 0) ∧ (f j = 4 → P { s with ul := true } 0) ∧
    (f j = 22 → P { s with bo := false, di := false } 0) ∧ (f j = 23 → P { s with it := false } 0) ∧ (f j = 24 → P { s with ul := false } 0) ∧ (f j = 39 → P { s with fg := Col.zero } 0) ∧ (f j = 49 → P { s with bg := Col.zero } 0) ∧
    (f j = 38 → P (if (extAt f n j).1.1 = 0 then s else { s with fg := (extAt f n j).1 }) (extAt f n j).2) ∧ (f j = 48 → P (if (extAt f n j).1.1 = 0 then s else { s with bg := (extAt f n j).1 }) (extAt f n j).2) ∧
    (30 ≤ f j → f j ≤ 37 → P { s with fg := (1, f j - 30, 0, 0, 0) } 0) ∧ (90 ≤ f j → f j ≤ 97 → P { s with fg := (1, f j - 90 + 8, 0, 0, 0) } 0) ∧ (40 ≤ f j → f j ≤ 47 → P { s with bg := (1, f j - 40, 0, 0, 0) } 0) ∧ (100 ≤ f j → f j ≤ 107 → P { s with bg := (1, f j - 100 + 8, 0, 0, 0) } 0) ∧
    (f j ≠ 0 → f j ≠ 1 → f j ≠ 2 → f j ≠ 3 → f j ≠ 4 → f j ≠ 22 → f j ≠ 23 → f j ≠ 24 → f j ≠ 39 → f j ≠ 49 → f j ≠ 38 → f j ≠ 48 → ¬ (30 ≤ f j ∧ f j ≤ 37) → ¬ (90 ≤ f j ∧ f j ≤ 97) → ¬ (40 ≤ f j ∧ f j ≤ 47) → ¬ (100 ≤ f j ∧ f j ≤ 107) → P s 0) := by
  have hN0 : f j ≠ 38 → f j ≠ 48 → codeN f n j = 0 := fun h1 h2 => by unfold codeN; rw [if_neg (by omega)]
  have hN1 : f j = 38 ∨ f j = 48 → codeN f n j = (extAt f n j).2 := fun h => by unfold codeN; rw [if_pos h]
  have hB0 : ¬ (30 ≤ f j ∧ f j ≤ 37) → ¬ (90 ≤ f j ∧ f j ≤ 97) → ¬ (40 ≤ f j ∧ f j ≤ 47) → ¬ (100 ≤ f j ∧ f j ≤ 107) → bandS (f j) s = s := fun h1 h2 h3 h4 => by unfold bandS; rw [if_neg h1, if_neg h2, if_neg h3, if_neg h4]
  refine ⟨?_, ?_, ?_, ?_, ?_, ?_, ?_, ?_, ?_, ?_, ?_, ?_, ?_, ?_, ?_, ?_, ?_⟩
  all_goals intros
  all_goals first | rw [hN1 (by omega)] at hP | rw [hN0 (by omega) (by omega)] at hP
  all_goals first | rw [hB0 (by omega) (by omega) (by omega) (by omega)] at hP | unfold bandS at hP
  all_goals unfold codeS at hP
  all_goals
    repeat (first | rw [if_pos (by omega)] at hP | rw [if_neg (by omega)] at hP)
    exact hP

theorem u8_0 : U8 0 := ⟨by decide, by decide⟩
theorem u8_1 : U8 1 := ⟨by decide, by decide⟩
theorem u8_2 : U8 2 := ⟨by decide, by decide⟩
theorem wf_ite {p : Prop} [Decidable p] {a b : Sty} (ha : Wf a) (hb : Wf b) : Wf (if p then a else b) := by split <;> assumption
theorem wf_zero : WfC Col.zero := ⟨u8_0, u8_0, u8_0, u8_0, u8_0⟩
theorem u8_mod (x : Int) : U8 (x % 256) := ⟨Int.emod_nonneg _ (by decide), Int.emod_lt_of_pos _ (by decide)⟩
theorem u8_lit (x : Int) (h : 0 ≤ x ∧ x < 256) : U8 x := h
theorem ext_wf (f : Nat → Int) (n : Nat) : WfC (ext f n).1 := by
  unfold ext
  repeat' split
  all_goals first | exact wf_zero | exact ⟨u8_1, u8_mod _, u8_0, u8_0, u8_0⟩ | exact ⟨u8_2, u8_0, u8_mod _, u8_mod _, u8_mod _⟩
theorem wf_pal (x : Int) (h : 0 ≤ x ∧ x < 256) : WfC (1, x, 0, 0, 0) := ⟨u8_1, h, u8_0, u8_0, u8_0⟩
theorem bandS_wf (c : Int) (s : Sty) (h : Wf s) : Wf (bandS c s) := by
  unfold bandS
  repeat' split
  · exact ⟨wf_pal _ (by omega), h.2⟩
  · exact ⟨wf_pal _ (by omega), h.2⟩
  · exact ⟨h.1, wf_pal _ (by omega)⟩
  · exact ⟨h.1, wf_pal _ (by omega)⟩
  · exact h
theorem codeS_wf (f : Nat → Int) (n i : Nat) (s : Sty) (h : Wf s) : Wf (codeS f n i s) := by
  unfold codeS
  repeat' refine wf_ite ?_ ?_
  all_goals first | exact h | exact ⟨wf_zero, wf_zero⟩ | exact ⟨wf_zero, h.2⟩ | exact ⟨h.1, wf_zero⟩ | exact ⟨ext_wf _ _, h.2⟩ | exact ⟨h.1, ext_wf _ _⟩
theorem runS_wf (f : Nat → Int) (n : Nat) : ∀ (m i : Nat) (s : Sty), n - i ≤ m → Wf s → Wf (runS f n i s)
  | 0, i, s, hm, h => by rw [runS_end f n i s (by omega)]; exact h
  | m + 1, i, s, hm, h => by
    by_cases hi : i < n
    · rw [runS_step f n i s hi]
      exact runS_wf f n m _ _ (by omega) (codeS_wf f n i _ (bandS_wf _ _ h))
    · rw [runS_end f n i s (by omega)]; exact h
end Go.Proofs.Qxb6601196a
