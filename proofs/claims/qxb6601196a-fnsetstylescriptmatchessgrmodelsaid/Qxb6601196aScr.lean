import Derived.Test.Qxb6601196aTab
namespace Go.Proofs.Qxb6601196a
open Go.ChangeShapes Go.WideShapes Go.ChangeAt Go.RowKit Go.Deep
set_option linter.unusedVariables false

/-- the screen in block S: its style, its number, its row of styles (L), its map of numbers (those of M) -/
structure Scr (w : World) (S B : Nat) (s : Sty) (num : Int) (sv mv : Value) (L M : List Sty) : Prop where
  obj : ∃ arr, w.heap[S]? = some (.cells arr 66 (0, 0)) ∧ arr.size = 32
  st : StyAt w S 6 s
  c20 : w.cell? ⟨S, 20, none⟩ = some (.int .u32 num)
  c21 : w.cell? ⟨S, 21, none⟩ = some sv
  c22 : w.cell? ⟨S, 22, none⟩ = some mv
  row : w.ownsRow B 59 14 sv L.length (flatS L)
  map : (mv = .map none ∧ M = []) ∨ ∃ mb D, mv = .map (some mb) ∧ w.ownsMap Try.prog 59 (plainElem Try.prog 44) mb M.length D ∧ Table D M
theorem Scr.lt {w : World} {S B : Nat} {s : Sty} {num : Int} {sv mv : Value} {L M : List Sty} (h : Scr w S B s num sv mv L M) : S < w.heap.size := by
  obtain ⟨arr, ha, _⟩ := h.obj
  exact (Array.getElem?_eq_some_iff.1 ha).1
theorem cell_blk {w w' : World} {b : Nat} (h : w'.heap[b]? = w.heap[b]?) (o : Nat) : w'.cell? ⟨b, o, none⟩ = w.cell? ⟨b, o, none⟩ := by simp only [World.cell?, h]
theorem frozen_blk {w w' : World} {b : Nat} (h : w'.heap[b]? = w.heap[b]?) (o : Nat) : w'.frozen? ⟨b, o, none⟩ = w.frozen? ⟨b, o, none⟩ := by simp only [World.frozen?, h]
theorem StyAt.blk {w w' : World} {b o : Nat} {s : Sty} (hs : StyAt w b o s) (h : w'.heap[b]? = w.heap[b]?) : StyAt w' b o s := by
  constructor
  all_goals first | (intro j; rw [frozen_blk h]; exact hs.fr j) | rw [cell_blk h]
  · exact hs.c0
  · exact hs.c1
  · exact hs.c2
  · exact hs.c3
  · exact hs.c4
  · exact hs.c5
  · exact hs.c6
  · exact hs.c7
  · exact hs.c8
  · exact hs.c9
  · exact hs.c10
  · exact hs.c11
  · exact hs.c12
  · exact hs.c13

/-- what a call on the screen leaves of the rest: all blocks but the screen's, its row's and its map's -/
structure Turn (w w' : World) (S : Nat) (sv mv : Value) : Prop where
  os : w'.os = w.os
  tape : w'.tape = w.tape
  output : w'.output = w.output
  size : w.heap.size ≤ w'.heap.size
  block : ∀ k, k < w.heap.size → k ≠ S → some k ≠ sv.ownBlock → (∀ mb, mv = .map (some mb) → k ≠ mb) → w'.heap[k]? = w.heap[k]?

theorem cur_any (S : Nat) (s : Sty) (w : World) (h : StyAt w S 6 s) (hS : S < w.heap.size) : Calls Try.prog 23 #[.pointer (some ⟨S, 0, none⟩)] w fun e w' => e = .returned (styV s) ∧ w' = w.alloc (.cells (styC s) 59) := by
  have t0 := h.c0
  have t1 := h.c1
  have t2 := h.c2
  have t3 := h.c3
  have t4 := h.c4
  have t5 := h.c5
  have t6 := h.c6
  have t7 := h.c7
  have t8 := h.c8
  have t9 := h.c9
  have t10 := h.c10
  have t11 := h.c11
  have t12 := h.c12
  have t13 := h.c13
  clear h
  go_enter Try.func23, Try.ntmps23
  go_wp2_with fail
  exact bodyPost_ret (v := styV s) (by simp [results, Try.results23, go_sem, styV, styC]) rfl ⟨rfl, rfl⟩
theorem styled_any (S : Nat) (num : Int) (w : World) (h : w.cell? ⟨S, 20, none⟩ = some (.int .u32 num)) : Calls Try.prog 24 #[.pointer (some ⟨S, 0, none⟩)] w fun e w' => e = .returned (.int .u32 num) ∧ w' = w := by
  go_enter Try.func24, Try.ntmps24
  go_wp2_with fail
  go_ret
  exact ⟨rfl, rfl⟩
theorem count_any (S : Nat) (a : Option Addr) (n c : Nat) (w : World) (h : w.cell? ⟨S, 21, none⟩ = some (.slice a n c)) : Calls Try.prog 25 #[.pointer (some ⟨S, 0, none⟩)] w fun e w' => e = .returned (.int .i64 n) ∧ w' = w := by
  go_enter Try.func25, Try.ntmps25
  go_wp2_with fail
  go_ret
  exact ⟨rfl, rfl⟩
theorem styleAt_any (S g j n c : Nat) (s : Sty) (w : World) (h : w.cell? ⟨S, 21, none⟩ = some (.slice (some ⟨g, 0, none⟩) n c)) (hj : j < n) (hn : n ≤ 1048576) (ht : StyAt w g (j * 14) s) (hg : g < w.heap.size) (hS : S < w.heap.size) :
    Calls Try.prog 27 #[.pointer (some ⟨S, 0, none⟩), .int .i64 j] w fun e w' => e = .returned (styV s) ∧ w' = w.alloc (.cells (styC s) 59) := by
  have t0 := ht.c0
  have t1 := ht.c1
  have t2 := ht.c2
  have t3 := ht.c3
  have t4 := ht.c4
  have t5 := ht.c5
  have t6 := ht.c6
  have t7 := ht.c7
  have t8 := ht.c8
  have t9 := ht.c9
  have t10 := ht.c10
  have t11 := ht.c11
  have t12 := ht.c12
  have t13 := ht.c13
  clear ht
  have hlt' : (j : Int) < (n : Int) := by omega
  have hj0 : (0 : Int) ≤ (j : Int) := by omega
  go_enter Try.func27, Try.ntmps27
  go_wp2_with fail
  exact bodyPost_ret (v := styV s) (by simp [results, Try.results27, go_sem, styV, styC]) rfl ⟨rfl, rfl⟩
theorem numCount_any (S mb n : Nat) (D : DataW Unit) (w : World) (h : w.cell? ⟨S, 22, none⟩ = some (.map (some mb))) (hm : w.ownsMap Try.prog 59 (plainElem Try.prog 44) mb n D) : Calls Try.prog 26 #[.pointer (some ⟨S, 0, none⟩)] w fun e w' => e = .returned (.int .i64 (Maps.size D)) ∧ w' = w := by
  have hl := hm.len Try.underlying61
  clear hm
  go_enter Try.func26, Try.ntmps26
  go_wp2_with fail
  go_ret
  exact ⟨rfl, rfl⟩
theorem numCount_nil (S : Nat) (w : World) (h : w.cell? ⟨S, 22, none⟩ = some (.map none)) : Calls Try.prog 26 #[.pointer (some ⟨S, 0, none⟩)] w fun e w' => e = .returned (.int .i64 0) ∧ w' = w := by
  have hl := Maps.len_nil (w := w) (P := Try.prog) Try.underlying61
  go_enter Try.func26, Try.ntmps26
  go_wp2_with fail
  go_ret
  exact ⟨rfl, rfl⟩
end Go.Proofs.Qxb6601196a
