import Derived.Test.Qxb6601196aApp
namespace Go.Proofs.Qxb6601196a
open Go.ChangeShapes Go.WideShapes Go.ChangeAt Go.RowKit Go.Deep
set_option linter.unusedVariables false

theorem tag_own {w : World} {base : Nat} {e : TypeId} {size n : Nat} {v : Value} {xs : List Value} (h : w.ownsRow base e size v n xs) : ∀ k, v.ownBlock = some k → base ≤ k ∧ ∃ c, w.heap[k]? = some (.cells c e (0, 0)) := by
  intro k hk
  rcases h.2 with ⟨rfl, _⟩ | ⟨g, cap, cur, rfl, hg, hh, _⟩
  · cases hk
  · injection hk with hk
    subst hk
    exact ⟨hg, cur, hh⟩
theorem set_own {w : World} {base : Nat} {e : TypeId} {size n : Nat} {v : Value} {xs : List Value} (h : w.ownsRow base e size v n xs) {b : Nat} (hb : v.ownBlock ≠ some b) (i : Nat) (u : Value) : (w.setCell ⟨b, i, none⟩ u).ownsRow base e size v n xs := by
  refine h.kept (row := some b) ⟨rfl, rfl, rfl, by simp [World.setCell], fun k _ hk => heap_setCell_other _ _ _ _ (by intro e; subst e; exact hk rfl)⟩ ?_
  cases hv : v.ownBlock with
  | none => exact .inl rfl
  | some k => exact .inr (by rw [← hv]; exact hb)

theorem cell_set_ne (w : World) (S i j : Nat) (v : Value) (h : i ≠ j) : (w.setCell ⟨S, i, none⟩ v).cell? ⟨S, j, none⟩ = w.cell? ⟨S, j, none⟩ := by
  apply World.cell?_setCell_other
  intro e
  injection e with _ e _
  exact h e

theorem StyAt.set {w : World} {S : Nat} {s : Sty} (h : StyAt w S 6 s) (i : Nat) (v : Value) (hi : 20 ≤ i) : StyAt (w.setCell ⟨S, i, none⟩ v) S 6 s := by
  constructor
  all_goals first | (intro j; rw [World.frozen?_setCell]; exact h.fr j) | rw [cell_set_ne _ _ _ _ _ (by omega)]
  · exact h.c0
  · exact h.c1
  · exact h.c2
  · exact h.c3
  · exact h.c4
  · exact h.c5
  · exact h.c6
  · exact h.c7
  · exact h.c8
  · exact h.c9
  · exact h.c10
  · exact h.c11
  · exact h.c12
  · exact h.c13

section
variable {w : World} {S B : Nat} {s : Sty} {num : Int} {sv mv : Value} {L M : List Sty}

theorem Scr.drewN (h : Scr w S B s num sv mv L M) (q : Nat) : Scr (w.drewN q) S B s num sv mv L M :=
  ⟨h.obj, ⟨h.st.c0, h.st.c1, h.st.c2, h.st.c3, h.st.c4, h.st.c5, h.st.c6, h.st.c7, h.st.c8, h.st.c9, h.st.c10, h.st.c11, h.st.c12, h.st.c13, h.st.fr⟩, h.c20, h.c21, h.c22, h.row, h.map⟩

theorem Scr.notRow (h : Scr w S B s num sv mv L M) : sv.ownBlock ≠ some S := by
  intro e
  obtain ⟨_, c, hc⟩ := tag_own h.row S e
  obtain ⟨arr, ha, _⟩ := h.obj
  rw [ha] at hc
  injection hc with hc
  injection hc with _ e _
  exact absurd e (by decide)

theorem map_ne {mb n : Nat} {D : DataW Unit} (hm : w.ownsMap Try.prog 59 (plainElem Try.prog 44) mb n D) {b : Nat} {c : Array Value} {t : TypeId} (hb : w.heap[b]? = some (.cells c t (0, 0))) : mb ≠ b := by
  obtain ⟨es, clock, he, _⟩ := hm
  intro e
  subst e
  rw [he] at hb
  cases hb

/-- other blocks turn, the row and the map are kept -/
theorem Scr.grown {w' : World} {r : Option Nat} (h : Scr w S B s num sv mv L M) (hg : w.grownBy w' r) (hr : r ≠ some S) (hrow : ∀ k, sv.ownBlock = some k → r ≠ some k) (hmap : ∀ mb, mv = .map (some mb) → r ≠ some mb) : Scr w' S B s num sv mv L M := by
  have hS : w'.heap[S]? = w.heap[S]? := hg.block S h.lt (fun e => hr e.symm)
  refine ⟨?_, h.st.blk hS, by rw [cell_blk hS]; exact h.c20, by rw [cell_blk hS]; exact h.c21, by rw [cell_blk hS]; exact h.c22, ?_, ?_⟩
  · rw [hS]; exact h.obj
  · refine h.row.kept hg ?_
    cases hv : sv.ownBlock with
    | none => exact .inl rfl
    | some k => exact .inr (fun e => hrow k hv (by rw [← e]))
  · rcases h.map with h1 | ⟨mb, D, h1, h2, h3⟩
    · exact .inl h1
    · exact .inr ⟨mb, D, h1, h2.kept hg (fun e => hmap mb h1 e.symm), h3⟩
theorem Scr.alloc (h : Scr w S B s num sv mv L M) (o : Obj) : Scr (w.alloc o) S B s num sv mv L M :=
  h.grown (World.grownBy_alloc w o none) (by simp) (by simp) (by simp)

/-- the map laid into its field -/
theorem Scr.set22 (h : Scr w S B s num sv mv L M) {mb : Nat} {D : DataW Unit} {M' : List Sty} (hm : w.ownsMap Try.prog 59 (plainElem Try.prog 44) mb M'.length D) (ht : Table D M') : Scr (w.setCell ⟨S, 22, none⟩ (.map (some mb))) S B s num sv (.map (some mb)) L M' := by
  obtain ⟨arr, ha, hsz⟩ := h.obj
  refine ⟨⟨_, heap_setCell_same w S 22 _ _ _ ha, by simpa using hsz⟩, h.st.set _ _ (by omega), by rw [cell_set_ne _ _ _ _ _ (by omega)]; exact h.c20, by rw [cell_set_ne _ _ _ _ _ (by omega)]; exact h.c21, World.cell?_setCell_same _ _ _ h.c22, set_own h.row h.notRow _ _, .inr ⟨mb, D, rfl, hm.setCell (map_ne hm ha) _, ht⟩⟩
/-- the row laid into its field -/
theorem Scr.set21 (h : Scr w S B s num sv mv L M) {sv' : Value} {L' : List Sty} (hr : w.ownsRow B 59 14 sv' L'.length (flatS L')) : Scr (w.setCell ⟨S, 21, none⟩ sv') S B s num sv' mv L' M := by
  obtain ⟨arr, ha, hsz⟩ := h.obj
  have hn : sv'.ownBlock ≠ some S := by
    intro e
    obtain ⟨_, c, hc⟩ := tag_own hr S e
    rw [ha] at hc
    injection hc with hc
    injection hc with _ e _
    exact absurd e (by decide)
  refine ⟨⟨_, heap_setCell_same w S 21 _ _ _ ha, by simpa using hsz⟩, h.st.set _ _ (by omega), by rw [cell_set_ne _ _ _ _ _ (by omega)]; exact h.c20, World.cell?_setCell_same _ _ _ h.c21, by rw [cell_set_ne _ _ _ _ _ (by omega)]; exact h.c22, set_own hr hn _ _, ?_⟩
  rcases h.map with h1 | ⟨mb, D, h1, h2, h3⟩
  · exact .inl h1
  · exact .inr ⟨mb, D, h1, h2.setCell (map_ne h2 ha) _, h3⟩
end

/-- the map made, and laid into its field -/
theorem Scr.newMap {w : World} {S B : Nat} {s : Sty} {num : Int} {sv mv : Value} {L : List Sty} (h : Scr w S B s num sv mv L []) :
    Scr ((w.setCell ⟨S, 22, none⟩ (.map (some w.heap.size))).alloc (.map #[] 0)) S B s num sv (.map (some w.heap.size)) L [] := by
  obtain ⟨arr, ha, hsz⟩ := h.obj
  have hs : (w.setCell ⟨S, 22, none⟩ (.map (some w.heap.size))).heap.size = w.heap.size := by simp [World.setCell]
  have hlt : S < (w.setCell ⟨S, 22, none⟩ (.map (some w.heap.size))).heap.size := by rw [hs]; exact h.lt
  have hb : ((w.setCell ⟨S, 22, none⟩ (.map (some w.heap.size))).alloc (.map #[] 0)).heap[S]? = (w.setCell ⟨S, 22, none⟩ (.map (some w.heap.size))).heap[S]? := Below.heap_alloc _ _ _ hlt
  refine ⟨⟨_, by rw [hb]; exact heap_setCell_same w S 22 _ _ _ ha, by simpa using hsz⟩, (h.st.set _ _ (by omega)).blk hb, by rw [cell_blk hb, cell_set_ne _ _ _ _ _ (by omega)]; exact h.c20, by rw [cell_blk hb, cell_set_ne _ _ _ _ _ (by omega)]; exact h.c21, by rw [cell_blk hb]; exact World.cell?_setCell_same _ _ _ h.c22, (set_own h.row h.notRow _ _).alloc _, .inr ⟨w.heap.size, .map [], rfl, ?_, table_nil⟩⟩
  have := World.ownsMap_made (H := Unit) (w.setCell ⟨S, 22, none⟩ (.map (some w.heap.size))) Try.prog 59 (plainElem Try.prog 44)
  rw [hs] at this
  exact this

/-- the row appended to, and laid into its field -/
theorem Scr.app {w w' : World} {S B : Nat} {s : Sty} {num : Int} {sv sv' mv : Value} {L L' M : List Sty} (h : Scr w S B s num sv mv L M) (hg : w.grownBy w' sv.ownBlock) (hr : w'.ownsRow B 59 14 sv' L'.length (flatS L')) :
    Scr (w'.setCell ⟨S, 21, none⟩ sv') S B s num sv' mv L' M := by
  have hS : w'.heap[S]? = w.heap[S]? := hg.block S h.lt (fun e => h.notRow e.symm)
  obtain ⟨arr, ha, hsz⟩ := h.obj
  have ha' : w'.heap[S]? = some (.cells arr 66 (0, 0)) := by rw [hS]; exact ha
  have hn : sv'.ownBlock ≠ some S := by
    intro e
    obtain ⟨_, c, hc⟩ := tag_own hr S e
    rw [ha'] at hc
    injection hc with hc
    injection hc with _ e _
    exact absurd e (by decide)
  refine ⟨⟨_, heap_setCell_same w' S 21 _ _ _ ha', by simpa using hsz⟩, (h.st.blk hS).set _ _ (by omega), by rw [cell_set_ne _ _ _ _ _ (by omega), cell_blk hS]; exact h.c20, World.cell?_setCell_same _ _ _ (by rw [cell_blk hS]; exact h.c21), by rw [cell_set_ne _ _ _ _ _ (by omega), cell_blk hS]; exact h.c22, set_own hr hn _ _, ?_⟩
  rcases h.map with h1 | ⟨mb, D, h1, h2, h3⟩
  · exact .inl h1
  · have hne : some mb ≠ sv.ownBlock := by
      intro e
      obtain ⟨_, c, hc⟩ := tag_own h.row mb e.symm
      exact map_ne h2 hc rfl
    have h2' := h2.kept hg hne
    exact .inr ⟨mb, D, h1, h2'.setCell (map_ne h2' ha') _, h3⟩

end Go.Proofs.Qxb6601196a
