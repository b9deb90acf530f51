import Derived.Test.Qxb6601196aRun
import Derived.Test.Qxb6601196aSmall
namespace Go.Proofs.Qxb6601196a
open Go.ChangeShapes Go.WideShapes Go.ChangeAt Go.RowKit Go.Deep
set_option linter.unusedVariables false

/-- a style laid into block X whole -/
def layS (w : World) (X : Nat) (t : Sty) : World :=
  ((((((((((((((w.setCell ⟨X, 0, none⟩ (.int .u8 t.fg.1)).setCell ⟨X, 1, none⟩ (.int .u8 t.fg.2.1)).setCell ⟨X, 2, none⟩ (.int .u8 t.fg.2.2.1)).setCell ⟨X, 3, none⟩ (.int .u8 t.fg.2.2.2.1)).setCell ⟨X, 4, none⟩ (.int .u8 t.fg.2.2.2.2)).setCell ⟨X, 5, none⟩ (.int .u8 t.bg.1)).setCell ⟨X, 6, none⟩ (.int .u8 t.bg.2.1)).setCell ⟨X, 7, none⟩ (.int .u8 t.bg.2.2.1)).setCell ⟨X, 8, none⟩ (.int .u8 t.bg.2.2.2.1)).setCell ⟨X, 9, none⟩ (.int .u8 t.bg.2.2.2.2)).setCell ⟨X, 10, none⟩ (.bool t.bo)).setCell ⟨X, 11, none⟩ (.bool t.di)).setCell ⟨X, 12, none⟩ (.bool t.it)).setCell ⟨X, 13, none⟩ (.bool t.ul))
theorem StyIn.lay {w : World} {X : Nat} {z : Sty} (h : StyIn w X z) (t : Sty) : StyIn (layS w X t) X t :=
  (((((((((((((h.set 0 _ (t := { z with fg := (t.fg.1, z.fg.2) }) rfl).set 1 _ (t := { z with fg := (t.fg.1, t.fg.2.1, z.fg.2.2) }) rfl).set 2 _ (t := { z with fg := (t.fg.1, t.fg.2.1, t.fg.2.2.1, z.fg.2.2.2) }) rfl).set 3 _ (t := { z with fg := (t.fg.1, t.fg.2.1, t.fg.2.2.1, t.fg.2.2.2.1, z.fg.2.2.2.2) }) rfl).set 4 _ (t := { z with fg := t.fg }) rfl).set 5 _ (t := { z with fg := t.fg, bg := (t.bg.1, z.bg.2) }) rfl).set 6 _ (t := { z with fg := t.fg, bg := (t.bg.1, t.bg.2.1, z.bg.2.2) }) rfl).set 7 _ (t := { z with fg := t.fg, bg := (t.bg.1, t.bg.2.1, t.bg.2.2.1, z.bg.2.2.2) }) rfl).set 8 _ (t := { z with fg := t.fg, bg := (t.bg.1, t.bg.2.1, t.bg.2.2.1, t.bg.2.2.2.1, z.bg.2.2.2.2) }) rfl).set 9 _ (t := { z with fg := t.fg, bg := t.bg }) rfl).set 10 _ (t := { z with fg := t.fg, bg := t.bg, bo := t.bo }) rfl).set 11 _ (t := { z with fg := t.fg, bg := t.bg, bo := t.bo, di := t.di }) rfl).set 12 _ (t := { t with ul := z.ul }) rfl).set 13 _ rfl
theorem size_set (w : World) (a : Addr) (v : Value) : (w.setCell a v).heap.size = w.heap.size := by simp [World.setCell]
theorem lay_grown (w : World) (X : Nat) (t : Sty) : w.grownBy (layS w X t) (some X) := by
  unfold layS
  refine ⟨by simp only [os_set], by simp only [tape_set], by simp only [output_set], by simp only [size_set]; exact Nat.le_refl _, fun k _ hk => ?_⟩
  have hne : k ≠ X := fun e => hk (by rw [e])
  repeat rw [heap_setCell_other _ _ _ _ hne]

/-- a row that lies where it lay -/
theorem row_blk {w w' : World} {base : Nat} {e : TypeId} {size n : Nat} {v : Value} {xs : List Value} (h : w.ownsRow base e size v n xs) (hb : ∀ k, v.ownBlock = some k → w'.heap[k]? = w.heap[k]?) : w'.ownsRow base e size v n xs := by
  refine ⟨h.1, ?_⟩
  rcases h.2 with h | ⟨g, cap, cur, rfl, h1, h2, h3⟩
  · exact .inl h
  · exact .inr ⟨g, cap, cur, rfl, h1, by rw [hb g rfl]; exact h2, h3⟩
theorem row_lt {w : World} {base : Nat} {e : TypeId} {size n : Nat} {v : Value} {xs : List Value} (h : w.ownsRow base e size v n xs) {k : Nat} (hk : v.ownBlock = some k) : base ≤ k ∧ k < w.heap.size := by
  obtain ⟨h1, c, hc⟩ := tag_own h k hk
  exact ⟨h1, (Array.getElem?_eq_some_iff.1 hc).1⟩
/-- the style at place j of a row -/
theorem row_sty {w : World} {B g n cap : Nat} {L : List Sty} (h : w.ownsRow B 59 14 (.slice (some ⟨g, 0, none⟩) n cap) n (flatS L)) {j : Nat} {s : Sty} (hj : L[j]? = some s) : StyAt w g (j * 14) s := by
  obtain ⟨hlen, h2⟩ := h
  rcases h2 with ⟨e, _⟩ | ⟨g', cap', cur, e, _, hh, h3, h4, h5, h6⟩
  · cases e
  · injection e with e _ _
    injection e with e
    injection e with e
    subst e
    rw [flatS_len] at hlen
    have hjl := (List.getElem?_eq_some_iff.1 hj).1
    have hcell : ∀ k, k < 14 → w.cell? ⟨g, j * 14 + k, none⟩ = (styC s)[k]? := by
      intro k hk
      rw [cell_of_row w g _ _ _ _ hh, ← flatS_at L j s hj k hk, ← h6, List.getElem?_take_of_lt (by omega)]
      simp
    exact ⟨hcell 0 (by omega), hcell 1 (by omega), hcell 2 (by omega), hcell 3 (by omega), hcell 4 (by omega), hcell 5 (by omega), hcell 6 (by omega), hcell 7 (by omega), hcell 8 (by omega), hcell 9 (by omega), hcell 10 (by omega), hcell 11 (by omega), hcell 12 (by omega), hcell 13 (by omega), fun i => frozen_of_row w g i _ _ hh⟩
theorem row_addr {w : World} {B n : Nat} {v : Value} {L : List Sty} (h : w.ownsRow B 59 14 v n (flatS L)) (hn : 0 < n) : ∃ g cap, v = .slice (some ⟨g, 0, none⟩) n cap ∧ g < w.heap.size := by
  rcases h.2 with ⟨_, e⟩ | ⟨g, cap, cur, e, _, hh, _⟩
  · omega
  · exact ⟨g, cap, e, (Array.getElem?_eq_some_iff.1 hh).1⟩

/-- all that stands behind a round: the screen (style s, number num, styles L), the model's style t, the row of styles seen (L7) -/
structure Main (W wr : World) (s t : Sty) (num : Int) (sv mv v7 : Value) (L L7 : List Sty) : Prop where
  scr : Scr wr W.heap.size W.heap.size s num sv mv L L
  sty : StyIn wr (W.heap.size + 1) t
  row : wr.ownsRow W.heap.size 59 14 v7 L7.length (flatS L7)
  apart : ∀ k, sv.ownBlock = some k → v7.ownBlock ≠ some k
  svX : sv.ownBlock ≠ some (W.heap.size + 1)
  v7X : v7.ownBlock ≠ some (W.heap.size + 1)
  map : ∀ m, mv = .map (some m) → W.heap.size ≤ m
  bel : Below W.heap.size W wr
  wf : Wf s
  wft : Wf t
  wfL : ∀ x, x ∈ L → Wf x

section
variable {W wr : World} {s t : Sty} {num : Int} {sv mv v7 : Value} {L L7 : List Sty}

theorem Main.xlt (h : Main W wr s t num sv mv v7 L L7) : W.heap.size + 1 < wr.heap.size := (Array.getElem?_eq_some_iff.1 h.sty).1
theorem Main.mapNe (h : Main W wr s t num sv mv v7 L L7) {b : Nat} {c : Array Value} {ty : TypeId} (hb : wr.heap[b]? = some (.cells c ty (0, 0))) : ∀ m, mv = .map (some m) → b ≠ m := by
  intro m e
  rcases h.scr.map with ⟨e', _⟩ | ⟨mb, D, e', h2, _⟩
  · rw [e] at e'; cases e'
  · rw [e] at e'
    injection e' with e'
    injection e' with e'
    subst e'
    exact (map_ne h2 hb).symm
theorem Main.v7S (h : Main W wr s t num sv mv v7 L L7) : v7.ownBlock ≠ some W.heap.size := by
  intro e
  obtain ⟨_, c, hc⟩ := tag_own h.row _ e
  obtain ⟨arr, ha, _⟩ := h.scr.obj
  rw [ha] at hc
  injection hc with hc
  injection hc with _ e _
  exact absurd e (by decide)

theorem Main.drewN (h : Main W wr s t num sv mv v7 L L7) (q : Nat) : Main W (wr.drewN q) s t num sv mv v7 L L7 :=
  ⟨h.scr.drewN q, h.sty, h.row, h.apart, h.svX, h.v7X, h.map, ⟨h.bel.os, h.bel.tape, h.bel.output, h.bel.size, h.bel.block⟩, h.wf, h.wft, h.wfL⟩
theorem Main.below {w' : World} (h : Main W wr s t num sv mv v7 L L7) (hb : Below wr.heap.size wr w') : Main W w' s t num sv mv v7 L L7 :=
  ⟨h.scr.below hb, by show w'.heap[W.heap.size + 1]? = _; rw [hb.block _ h.xlt]; exact h.sty, row_blk h.row (fun k hk => hb.block k (row_lt h.row hk).2), h.apart, h.svX, h.v7X, h.map, h.bel.trans (hb.mono (Nat.le_of_lt (Nat.lt_of_succ_lt h.xlt))), h.wf, h.wft, h.wfL⟩
theorem Main.alloc (h : Main W wr s t num sv mv v7 L L7) (o : Obj) : Main W (wr.alloc o) s t num sv mv v7 L L7 := h.below ((Below.refl _ _).alloc (Nat.le_refl _) o)

/-- the call of setStyle -/
theorem Main.turn {w' : World} {s1 : Sty} {num1 : Int} {sv' mv' : Value} {L' : List Sty} (h : Main W wr s t num sv mv v7 L L7) (hs : Scr w' W.heap.size W.heap.size s1 num1 sv' mv' L' L') (ht : Turn wr w' W.heap.size sv mv)
    (h3 : sv'.ownBlock = sv.ownBlock ∨ ∃ g, sv'.ownBlock = some g ∧ wr.heap.size ≤ g) (h4 : ∀ m, mv' = .map (some m) → mv = .map (some m) ∨ wr.heap.size ≤ m) (hw : Wf s1) (hL : ∀ x, x ∈ L' → Wf x) : Main W w' s1 t num1 sv' mv' v7 L' L7 := by
  have hx := h.xlt
  refine ⟨hs, ?_, row_blk h.row (fun k hk => ?_), fun k hk => ?_, ?_, h.v7X, fun m hm => ?_, ⟨ht.os.trans h.bel.os, ht.tape.trans h.bel.tape, ht.output.trans h.bel.output, Nat.le_trans h.bel.size ht.size, fun k hk => ?_⟩, hw, h.wft, hL⟩
  · show w'.heap[W.heap.size + 1]? = _
    rw [ht.block _ hx (by omega) (fun e => h.svX e.symm) (h.mapNe h.sty)]
    exact h.sty
  · obtain ⟨_, c, hc⟩ := tag_own h.row k hk
    exact ht.block k (row_lt h.row hk).2 (fun e => h.v7S (by rw [hk, e])) (fun e => h.apart k e.symm hk) (h.mapNe hc)
  · rcases h3 with e | ⟨g, e1, e2⟩
    · exact h.apart k (by rw [← e]; exact hk)
    · intro e
      have := (row_lt h.row e).2
      rw [e1] at hk
      injection hk with hk
      omega
  · rcases h3 with e | ⟨g, e1, e2⟩
    · rw [e]; exact h.svX
    · rw [e1]
      intro e
      injection e with e
      omega
  · rcases h4 m hm with e | e
    · exact h.map m e
    · omega
  · rw [ht.block k (by omega) (by omega) (fun e => by have := (row_lt h.scr.row e.symm).1; omega) (fun m hm => by have := h.map m hm; omega)]
    exact h.bel.block k hk

/-- the model's style laid into its block -/
theorem Main.lay (h : Main W wr s t num sv mv v7 L L7) (t1 : Sty) (hw : Wf t1) : Main W (layS wr (W.heap.size + 1) t1) s t1 num sv mv v7 L L7 := by
  have hg := lay_grown wr (W.heap.size + 1) t1
  refine ⟨h.scr.grown hg (by simp) (fun k hk e => h.svX (by rw [hk, ← e])) (fun m hm e => h.mapNe h.sty m hm (by injection e)), h.sty.lay t1, row_blk h.row (fun k hk => hg.block k (row_lt h.row hk).2 (fun e => h.v7X (by rw [hk, e]))), h.apart, h.svX, h.v7X, h.map, h.bel.grown hg h.bel.size (fun k hk => by injection hk with hk; omega), h.wf, hw, h.wfL⟩

/-- one more style seen -/
theorem Main.push {w' : World} {v7' : Value} {o : Obj} (h : Main W wr s t num sv mv v7 L L7) (hg : (wr.alloc o).grownBy w' v7.ownBlock) (hr : w'.ownsRow W.heap.size 59 14 v7' (L7 ++ [t]).length (flatS (L7 ++ [t])))
    (hl : v7'.ownBlock = v7.ownBlock ∨ v7'.ownBlock = some (wr.heap.size + 1)) : Main W w' s t num sv mv v7' L (L7 ++ [t]) := by
  have ha := h.alloc o
  have hx := h.xlt
  have hz : (wr.alloc o).heap.size = wr.heap.size + 1 := by simp
  refine ⟨ha.scr.grown hg ha.v7S (fun k hk e => ha.apart k hk e) (fun m hm e => ?_), ?_, hr, fun k hk => ?_, h.svX, ?_, h.map, ha.bel.grown hg (by rw [hz]; omega) (fun k hk => (row_lt ha.row hk).1), h.wf, h.wft, h.wfL⟩
  · obtain ⟨_, c, hc⟩ := tag_own ha.row m e
    exact ha.mapNe hc m hm rfl
  · show w'.heap[W.heap.size + 1]? = _
    rw [hg.block _ (by rw [hz]; omega) (fun e => h.v7X e.symm)]
    exact ha.sty
  · have := (row_lt h.scr.row hk).2
    rcases hl with e | e
    · rw [e]; exact h.apart k hk
    · rw [e]; intro e; injection e with e; omega
  · rcases hl with e | e
    · rw [e]; exact h.v7X
    · rw [e]; intro e; injection e with e; omega
end
end Go.Proofs.Qxb6601196a
