import Derived.Test.Qxb6601196aNum
namespace Go.Proofs.Qxb6601196a
open Go.ChangeShapes Go.WideShapes Go.ChangeAt Go.RowKit Go.Deep
set_option linter.unusedVariables false

section
variable {w : World} {S B : Nat} {s : Sty} {num : Int} {sv mv : Value} {L M : List Sty}

/-- the style's 14 cells laid into the screen -/
def setSt (w : World) (S : Nat) (t : Sty) : World :=
  (((((((((((((((w.setCell ⟨S, 6, none⟩ (.int .u8 t.fg.1)).setCell ⟨S, 7, none⟩ (.int .u8 t.fg.2.1)).setCell ⟨S, 8, none⟩ (.int .u8 t.fg.2.2.1)).setCell ⟨S, 9, none⟩ (.int .u8 t.fg.2.2.2.1)).setCell ⟨S, 10, none⟩ (.int .u8 t.fg.2.2.2.2)).setCell ⟨S, 11, none⟩ (.int .u8 t.bg.1)).setCell ⟨S, 12, none⟩ (.int .u8 t.bg.2.1)).setCell ⟨S, 13, none⟩ (.int .u8 t.bg.2.2.1)).setCell ⟨S, 14, none⟩ (.int .u8 t.bg.2.2.2.1)).setCell ⟨S, 15, none⟩ (.int .u8 t.bg.2.2.2.2)).setCell ⟨S, 16, none⟩ (.bool t.bo)).setCell ⟨S, 17, none⟩ (.bool t.di)).setCell ⟨S, 18, none⟩ (.bool t.it)).setCell ⟨S, 19, none⟩ (.bool t.ul)))

theorem obj_set {w : World} {S i : Nat} {v : Value} (h : ∃ arr, w.heap[S]? = some (.cells arr 66 (0, 0)) ∧ arr.size = 32) : ∃ arr, (w.setCell ⟨S, i, none⟩ v).heap[S]? = some (.cells arr 66 (0, 0)) ∧ arr.size = 32 := by
  obtain ⟨arr, ha, hsz⟩ := h
  exact ⟨_, heap_setCell_same w S i _ _ _ ha, by simpa using hsz⟩

theorem Scr.setSt (h : Scr w S B s num sv mv L M) (t : Sty) : Scr (setSt w S t) S B t num sv mv L M := by
  unfold Qxb6601196a.setSt
  have hm : ∀ mb D, w.ownsMap Try.prog 59 (plainElem Try.prog 44) mb M.length D → mb ≠ S := fun mb D hm => by
    obtain ⟨arr, ha, _⟩ := h.obj
    exact map_ne hm ha
  refine ⟨?_, ?_, ?_, ?_, ?_, ?_, ?_⟩
  · repeat refine obj_set ?_
    exact h.obj
  · constructor
    · repeat rw [cell_set_ne _ _ _ _ _ (by omega)]
      exact World.cell?_setCell_same _ _ _ (by (repeat rw [cell_set_ne _ _ _ _ _ (by omega)]); exact h.st.c0)
    · repeat rw [cell_set_ne _ _ _ _ _ (by omega)]
      exact World.cell?_setCell_same _ _ _ (by (repeat rw [cell_set_ne _ _ _ _ _ (by omega)]); exact h.st.c1)
    · repeat rw [cell_set_ne _ _ _ _ _ (by omega)]
      exact World.cell?_setCell_same _ _ _ (by (repeat rw [cell_set_ne _ _ _ _ _ (by omega)]); exact h.st.c2)
    · repeat rw [cell_set_ne _ _ _ _ _ (by omega)]
      exact World.cell?_setCell_same _ _ _ (by (repeat rw [cell_set_ne _ _ _ _ _ (by omega)]); exact h.st.c3)
    · repeat rw [cell_set_ne _ _ _ _ _ (by omega)]
      exact World.cell?_setCell_same _ _ _ (by (repeat rw [cell_set_ne _ _ _ _ _ (by omega)]); exact h.st.c4)
    · repeat rw [cell_set_ne _ _ _ _ _ (by omega)]
      exact World.cell?_setCell_same _ _ _ (by (repeat rw [cell_set_ne _ _ _ _ _ (by omega)]); exact h.st.c5)
    · repeat rw [cell_set_ne _ _ _ _ _ (by omega)]
      exact World.cell?_setCell_same _ _ _ (by (repeat rw [cell_set_ne _ _ _ _ _ (by omega)]); exact h.st.c6)
    · repeat rw [cell_set_ne _ _ _ _ _ (by omega)]
      exact World.cell?_setCell_same _ _ _ (by (repeat rw [cell_set_ne _ _ _ _ _ (by omega)]); exact h.st.c7)
    · repeat rw [cell_set_ne _ _ _ _ _ (by omega)]
      exact World.cell?_setCell_same _ _ _ (by (repeat rw [cell_set_ne _ _ _ _ _ (by omega)]); exact h.st.c8)
    · repeat rw [cell_set_ne _ _ _ _ _ (by omega)]
      exact World.cell?_setCell_same _ _ _ (by (repeat rw [cell_set_ne _ _ _ _ _ (by omega)]); exact h.st.c9)
    · repeat rw [cell_set_ne _ _ _ _ _ (by omega)]
      exact World.cell?_setCell_same _ _ _ (by (repeat rw [cell_set_ne _ _ _ _ _ (by omega)]); exact h.st.c10)
    · repeat rw [cell_set_ne _ _ _ _ _ (by omega)]
      exact World.cell?_setCell_same _ _ _ (by (repeat rw [cell_set_ne _ _ _ _ _ (by omega)]); exact h.st.c11)
    · repeat rw [cell_set_ne _ _ _ _ _ (by omega)]
      exact World.cell?_setCell_same _ _ _ (by (repeat rw [cell_set_ne _ _ _ _ _ (by omega)]); exact h.st.c12)
    · repeat rw [cell_set_ne _ _ _ _ _ (by omega)]
      exact World.cell?_setCell_same _ _ _ (by (repeat rw [cell_set_ne _ _ _ _ _ (by omega)]); exact h.st.c13)
    · intro j
      repeat rw [World.frozen?_setCell]
      exact h.st.fr j
  · repeat rw [cell_set_ne _ _ _ _ _ (by omega)]
    exact h.c20
  · repeat rw [cell_set_ne _ _ _ _ _ (by omega)]
    exact h.c21
  · repeat rw [cell_set_ne _ _ _ _ _ (by omega)]
    exact h.c22
  · repeat refine set_own ?_ h.notRow _ _
    exact h.row
  · rcases h.map with h1 | ⟨mb, D, h1, h2, h3⟩
    · exact .inl h1
    · refine .inr ⟨mb, D, h1, ?_, h3⟩
      have hne := hm mb D h2
      repeat refine World.ownsMap.setCell ?_ hne _
      exact h2

theorem Scr.set20 (h : Scr w S B s num sv mv L M) (x : Int) : Scr (w.setCell ⟨S, 20, none⟩ (.int .u32 x)) S B s x sv mv L M := by
  obtain ⟨arr, ha, hsz⟩ := h.obj
  refine ⟨⟨_, heap_setCell_same w S 20 _ _ _ ha, by simpa using hsz⟩, h.st.set _ _ (by omega), World.cell?_setCell_same _ _ _ h.c20, by rw [cell_set_ne _ _ _ _ _ (by omega)]; exact h.c21, by rw [cell_set_ne _ _ _ _ _ (by omega)]; exact h.c22, set_own h.row h.notRow _ _, ?_⟩
  rcases h.map with h1 | ⟨mb, D, h1, h2, h3⟩
  · exact .inl h1
  · exact .inr ⟨mb, D, h1, h2.setCell (map_ne h2 ha) _, h3⟩

theorem Scr.below {w' : World} (h : Scr w S B s num sv mv L M) (hb : Below w.heap.size w w') : Scr w' S B s num sv mv L M :=
  h.grown (r := none) ⟨hb.os, hb.tape, hb.output, hb.size, fun k hk _ => hb.block k hk⟩ (by simp) (by simp) (by simp)
end

theorem heap_setSt (w : World) (S : Nat) (t : Sty) {k : Nat} (h : k ≠ S) : (setSt w S t).heap[k]? = w.heap[k]? := by
  unfold setSt
  repeat rw [heap_setCell_other _ _ _ _ h]
theorem size_setSt (w : World) (S : Nat) (t : Sty) : (setSt w S t).heap.size = w.heap.size := by
  unfold setSt
  simp [World.setCell]

theorem os_set (w : World) (a : Addr) (v : Value) : (w.setCell a v).os = w.os := rfl
theorem tape_set (w : World) (a : Addr) (v : Value) : (w.setCell a v).tape = w.tape := rfl
theorem output_set (w : World) (a : Addr) (v : Value) : (w.setCell a v).output = w.output := rfl
theorem os_setSt (w : World) (S : Nat) (t : Sty) : (setSt w S t).os = w.os := by
  unfold setSt
  simp only [os_set]
theorem tape_setSt (w : World) (S : Nat) (t : Sty) : (setSt w S t).tape = w.tape := by
  unfold setSt
  simp only [tape_set]
theorem output_setSt (w : World) (S : Nat) (t : Sty) : (setSt w S t).output = w.output := by
  unfold setSt
  simp only [output_set]
/-- what setStyle turns: w to wr above all that was, the style laid in, numberStyle, the number laid in -/
theorem Turn.whole {w wr w2 : World} {S : Nat} {sv mv : Value} {t : Sty} {x : Value} (hb : Below w.heap.size w wr) (ht : Turn (setSt wr S t) w2 S sv mv) : Turn w (w2.setCell ⟨S, 20, none⟩ x) S sv mv := by
  refine ⟨(os_set _ _ _).trans (ht.os.trans ((os_setSt _ _ _).trans hb.os)), (tape_set _ _ _).trans (ht.tape.trans ((tape_setSt _ _ _).trans hb.tape)), (output_set _ _ _).trans (ht.output.trans ((output_setSt _ _ _).trans hb.output)), ?_, ?_⟩
  · have h1 := ht.size
    rw [size_setSt] at h1
    have h2 := hb.size
    simp [World.setCell]
    omega
  · intro k hk h1 h2 h3
    have h4 := hb.size
    rw [heap_setCell_other _ _ _ _ h1, ht.block k (by rw [size_setSt]; omega) h1 h2 h3, heap_setSt _ _ _ h1]
    exact hb.block k hk
end Go.Proofs.Qxb6601196a
