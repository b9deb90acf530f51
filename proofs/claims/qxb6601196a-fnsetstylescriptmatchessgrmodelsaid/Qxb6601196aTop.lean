import Derived.Test.Qxb6601196aMain
namespace Go.Proofs.Qxb6601196a
open Go.ChangeShapes Go.WideShapes Go.ChangeAt Go.RowKit Go.Deep
set_option linter.unusedVariables false

/-- the cells of a zero Screen -/
def scr66 : Array Value := #[.slice none 0 0, .int .i64 0, .int .i64 0, .slice none 0 0, .slice none 0 0, .slice none 0 0, .int .u8 0, .int .u8 0, .int .u8 0, .int .u8 0, .int .u8 0, .int .u8 0, .int .u8 0, .int .u8 0, .int .u8 0, .int .u8 0,
  .bool false, .bool false, .bool false, .bool false, .int .u32 0, .slice none 0 0, .map none, .slice none 0 0, .int .i64 0, .int .i64 0, .bool false, .int .u8 0, .slice none 0 0, .slice none 0 0, .int .i64 0, .bool false]
theorem top_blk (w : World) (o : Obj) : (w.alloc o).heap[w.heap.size]? = some o := by
  show (w.heap.push _)[w.heap.size]? = _
  simp
theorem wf_styzero : Wf Sty.zero := ⟨wf_zero, wf_zero⟩
theorem start7 (W : World) : Main W ((W.alloc (.cells scr66 66)).alloc (.cells (styC Sty.zero) 59)) Sty.zero Sty.zero 0 (.slice none 0 0) (.map none) (.slice none 0 0) [] [] := by
  have h1 : (W.alloc (.cells scr66 66)).heap.size = W.heap.size + 1 := by simp
  have hS : ((W.alloc (.cells scr66 66)).alloc (.cells (styC Sty.zero) 59)).heap[W.heap.size]? = some (.cells scr66 66 (0, 0)) := by
    rw [Below.heap_alloc _ _ _ (by rw [h1]; omega)]
    exact top_blk W _
  have hX := top_blk (W.alloc (.cells scr66 66)) (.cells (styC Sty.zero) 59)
  rw [h1] at hX
  have hrow : ∀ w : World, w.ownsRow W.heap.size 59 14 (.slice none 0 0) 0 (flatS []) := fun w => ⟨rfl, .inl ⟨rfl, rfl⟩⟩
  refine ⟨⟨⟨_, hS, rfl⟩, ?_, ?_, ?_, ?_, hrow _, .inl ⟨rfl, rfl⟩⟩, hX, hrow _, (fun k hk => by simp [Value.ownBlock] at hk), (by simp [Value.ownBlock]), (by simp [Value.ownBlock]), (fun m hm => by cases hm), ((Below.refl _ _).alloc (Nat.le_refl _) _).alloc (by rw [h1]; omega) _, wf_styzero, wf_styzero, (fun x hx => by simp at hx)⟩
  · constructor
    all_goals first | (intro j; exact frozen_of_row _ _ j _ _ hS) | (rw [cell_of_row _ _ _ _ _ _ hS]; rfl)
  · rw [cell_of_row _ _ _ _ _ _ hS]; rfl
  · rw [cell_of_row _ _ _ _ _ _ hS]; rfl
  · rw [cell_of_row _ _ _ _ _ _ hS]; rfl

theorem codes_of {W : World} {B : Nat} {a : Option Addr} {n : Nat} {f : Nat → Int} (h : OwnI W B a n f) : ∃ cb, ∀ wr, Below W.heap.size W wr → Codes wr a n cb f := by
  rcases h with ⟨h1, h2⟩ | ⟨b, h1, h2, h3, h4⟩
  · exact ⟨0, fun wr _ => ⟨fun h => absurd h (by omega), fun h => absurd h (by omega), fun k hk => absurd hk (by omega)⟩⟩
  · refine ⟨b, fun wr hb => ⟨fun _ => h1, fun _ => Nat.lt_of_lt_of_le h3 hb.size, fun k hk => ?_⟩⟩
    rw [hb.cell h3]
    exact IRow.cell h4 hk

theorem addS_wf {L : List Sty} {s : Sty} (hL : ∀ x, x ∈ L → Wf x) (hs : Wf s) : ∀ x, x ∈ addS L s → Wf x := by
  intro x hx
  unfold addS at hx
  split at hx
  · exact hL x hx
  · rcases List.mem_append.1 hx with h | h
    · exact hL x h
    · rw [List.mem_singleton.1 h]; exact hs
theorem addS_len (L : List Sty) (s : Sty) : (addS L s).length ≤ L.length + 1 := by
  unfold addS
  split
  · omega
  · simp
theorem numOf_first {L : List Sty} {s : Sty} (hz : s ≠ Sty.zero) {i : Nat} (hi : L[i]? = some s) (hlt : ∀ r, r < i → L[r]? ≠ some s) : numOf L s = (i : Int) + 1 := by
  unfold numOf
  rw [if_neg hz]
  have hil := (List.getElem?_eq_some_iff.1 hi).1
  have hm : s ∈ L := List.mem_of_getElem? hi
  have h1 : L[L.idxOf s]? = some s := List.getElem?_eq_some_iff.2 ⟨List.idxOf_lt_length_iff.2 hm, List.getElem_idxOf _⟩
  have h2 : ¬ L.idxOf s < i := fun h => hlt _ h h1
  have h3 : ¬ i < L.idxOf s := by
    intro h
    have := List.not_of_lt_findIdx (p := fun x => x == s) (xs := L) (i := i) (by simpa [List.idxOf] using h)
    have e : L[i] = s := (List.getElem?_eq_some_iff.1 hi).2
    simp [e] at this
  have : L.idxOf s = i := by omega
  rw [this]
theorem notMem_of {L : List Sty} {s : Sty} (h : ∀ r, r < L.length → L[r]? ≠ some s) : s ∉ L := by
  intro hm
  obtain ⟨i, hi, e⟩ := List.getElem_of_mem hm
  exact h i hi (List.getElem?_eq_some_iff.2 ⟨hi, e⟩)
end Go.Proofs.Qxb6601196a
