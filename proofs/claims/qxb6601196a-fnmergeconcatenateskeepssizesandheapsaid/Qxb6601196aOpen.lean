import Derived.Test.Qxb6601196aFit
import Derived.Deep.Fields
import Derived.Deep.SlicePairs
namespace Go.Proofs.Qxb6601196a
open Go.ChangeShapes Go.WideShapes Go.ChangeAt Go.RowKit Go.Deep
set_option linter.unusedVariables false

theorem cells82 : Try.prog.cellsOf 82 = 5 := by kernel_rfl
theorem cells31 : Try.prog.cellsOf 31 = 1 := by kernel_rfl
theorem cells44 : Try.prog.cellsOf 44 = 1 := by kernel_rfl
theorem cells80 : Try.prog.cellsOf 80 = 1 := by kernel_rfl
theorem cells3 : Try.prog.cellsOf 3 = 1 := by kernel_rfl
theorem cells85 : Try.prog.cellsOf 85 = 2 := by kernel_rfl
theorem cells21 : Try.prog.cellsOf 21 = 1 := by kernel_rfl

theorem list5 {α : Type} {l : List α} (h : l.length = 5) : ∃ a b c d e, l = [a, b, c, d, e] := by
  match l, h with
  | [a, b, c, d, e], _ => exact ⟨a, b, c, d, e, rfl⟩

/-- whatever reads as a *PieceTreeB1 is such a tree -/
theorem open_tree {H : Type} {enc : TypeId × Value → H} {w : World} {sp : Nat → Bool} {hd : Bool} : ∀ (fuel : Nat) (cs : List Value) (x : DataW H × List MemPlace), DataW.trod enc Try.prog w 0 sp hd fuel 31 cs = some x →
    ∃ T : BT PayT, cs = [T.ptr] ∧ PTIn w w.heap.size T := by
  intro fuel
  induction fuel using Nat.strongRecOn with
  | _ fuel ih =>
    intro cs x h
    rcases DataW.trod_pointer Try.underlying31 h with ⟨rfl, rfl⟩ | ⟨a, cs', y, m, rfl, rfl, rfl, hcells, hy⟩
    · exact ⟨.nil, rfl, trivial⟩
    · obtain ⟨hb, hlen, hcell⟩ := World.cells?_some hcells
      rw [cells82] at hlen hcell
      obtain ⟨xs, n, rfl, rfl, _, hxl, hf⟩ := DataW.trod_struct Try.underlying82 hy
      obtain ⟨c0, c1, c2, c3, c4, rfl⟩ := list5 hlen
      obtain ⟨x0, x1, x2, x3, x4, rfl⟩ := list5 hxl
      have f0 : DataW.trod enc Try.prog w 0 sp hd n 31 [c0] = some x0 := by have this : DataW.trod enc Try.prog w 0 sp hd n 31 (List.take (Try.prog.cellsOf 31) (List.drop 0 [c0, c1, c2, c3, c4])) = some x0 := hf 0 _ rfl; rw [cells31] at this; exact this
      have f1 : DataW.trod enc Try.prog w 0 sp hd n 31 [c1] = some x1 := by have this : DataW.trod enc Try.prog w 0 sp hd n 31 (List.take (Try.prog.cellsOf 31) (List.drop 1 [c0, c1, c2, c3, c4])) = some x1 := hf 1 _ rfl; rw [cells31] at this; exact this
      have f2 : DataW.trod enc Try.prog w 0 sp hd n 44 [c2] = some x2 := by have this : DataW.trod enc Try.prog w 0 sp hd n 44 (List.take (Try.prog.cellsOf 44) (List.drop 2 [c0, c1, c2, c3, c4])) = some x2 := hf 2 _ rfl; rw [cells44] at this; exact this
      have f3 : DataW.trod enc Try.prog w 0 sp hd n 80 [c3] = some x3 := by have this : DataW.trod enc Try.prog w 0 sp hd n 80 (List.take (Try.prog.cellsOf 80) (List.drop 3 [c0, c1, c2, c3, c4])) = some x3 := hf 3 _ rfl; rw [cells80] at this; exact this
      have f4 : DataW.trod enc Try.prog w 0 sp hd n 3 [c4] = some x4 := by have this : DataW.trod enc Try.prog w 0 sp hd n 3 (List.take (Try.prog.cellsOf 3) (List.drop 4 [c0, c1, c2, c3, c4])) = some x4 := hf 4 _ rfl; rw [cells3] at this; exact this
      obtain ⟨Tl, hcl, hinl⟩ := ih n (by omega) [c0] x0 f0
      obtain ⟨Tr, hcr, hinr⟩ := ih n (by omega) [c1] x1 f1
      obtain ⟨pr, hpr, _, _⟩ := DataW.trod_int Try.underlying44 f2
      obtain ⟨bl, hbl, _, _⟩ := DataW.trod_int Try.underlying3 f4
      have el : c0 = Tl.ptr := by simpa using hcl
      have er : c1 = Tr.ptr := by simpa using hcr
      have e2 : c2 = .int .u32 pr := by simpa using hpr
      have e4 : c4 = .int .i64 bl := by simpa using hbl
      obtain ⟨b, off, spot⟩ := a
      have h0 := hcell 0 (by omega)
      have hspot : spot = none := by simpa [Addr.add] using World.cell?_spot h0
      subst hspot
      have g0 := hcell 0 (by omega)
      have g1 := hcell 1 (by omega)
      have g2 := hcell 2 (by omega)
      have g3 := hcell 3 (by omega)
      have g4 := hcell 4 (by omega)
      rw [add_plain] at g0 g1 g2 g3 g4
      simp only [List.getElem?_cons_zero, List.getElem?_cons_succ, Nat.add_zero] at g0 g1 g2 g3 g4
      have hbl' : b < w.heap.size := block_lt_of_cell g0
      rw [el] at g0
      rw [er] at g1
      rw [e2] at g2
      rw [e4] at g4
      rcases open_slice_pairs Try.underlying80 Try.underlying85 cells85 rfl rfl cells21 cells44 f3 with ⟨hs, _⟩ | ⟨sa, len, cap, mm, nn, V0, V1, D0, D1, P0, P1, hs, _, hl, hm, hmm, _, hx⟩
      · have e3 : c3 = .slice none 0 0 := by simpa using hs
        rw [e3] at g3
        exact ⟨.node b off ⟨pr, bl, none, 0, 0, fun _ => 0, fun _ => 0⟩ Tl Tr, rfl, hbl', g0, g1, g2, g3, g4, fun _ => rfl, by show 0 ≤ maxLen; omega, fun hh => absurd (show 0 < 0 from hh) (Nat.lt_irrefl 0), hinl, hinr⟩
      · have e3 : c3 = .slice (some sa) len cap := by simpa using hs
        rw [e3] at g3
        have hlm : len ≤ mm := by rw [hmm]; split <;> omega
        refine ⟨.node b off ⟨pr, bl, some sa, len, cap, fun i => intOf (V0 i), fun i => intOf (V1 i)⟩ Tl Tr, rfl, hbl', g0, g1, g2, g3, g4, fun hh => (by cases hh), by show len ≤ maxLen; omega, ?_, hinl, hinr⟩
        intro hpos
        have hpos' : 0 < len := hpos
        obtain ⟨cb, co, spot⟩ := sa
        have q0 := (hx 0 (by omega)).1
        have hsp : spot = none := by simpa [Addr.add] using World.cell?_spot q0
        subst hsp
        have hcb : cb < w.heap.size := by rw [add_plain] at q0; exact block_lt_of_cell q0
        refine ⟨cb, co, rfl, hcb, ?_⟩
        intro j hj
        have hj' : j < len := hj
        obtain ⟨k0, k1, t0, t1⟩ := hx j (by omega)
        obtain ⟨i0, hi0, _, _⟩ := DataW.trod_int Try.underlying21 t0
        obtain ⟨i1, hi1, _, _⟩ := DataW.trod_int Try.underlying44 t1
        have v0 : V0 j = .int .i32 i0 := by simpa using hi0
        have v1 : V1 j = .int .u32 i1 := by simpa using hi1
        rw [add_plain] at k0 k1
        refine ⟨?_, ?_⟩
        · show w.cell? ⟨cb, co + j * 2, none⟩ = some (.int .i32 (intOf (V0 j)))
          rw [k0, v0]; rfl
        · show w.cell? ⟨cb, co + j * 2 + 1, none⟩ = some (.int .u32 (intOf (V1 j)))
          rw [Nat.add_assoc, k1, v1]; rfl

end Go.Proofs.Qxb6601196a
