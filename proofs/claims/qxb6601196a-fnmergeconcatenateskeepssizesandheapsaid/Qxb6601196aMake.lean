import Derived.Test.Qxb6601196aKeep
import Derived.RegionTactic
namespace Go.Proofs.Qxb6601196a
open Go.ChangeShapes Go.WideShapes Go.ChangeAt Go.RowKit Go.Deep
set_option linter.unusedVariables false

/-! ### small callees -/
theorem makeCell_any (x y : Int) (w : World) :
    Calls Try.prog 32 #[.int .i32 x, .int .u32 y] w fun e w' => e = .returned (.agg #[.int .i32 x, .int .u32 y]) ∧ w' = w.alloc (.cells #[.int .i32 x, .int .u32 y] 87) := by
  go_enter Try.func32, Try.ntmps32
  go_wp2_with fail
  exact bodyPost_ret (v := .agg #[.int .i32 x, .int .u32 y]) (by simp [results, Try.results32, go_sem]) rfl ⟨rfl, rfl⟩

theorem newPiece_any (u1 u2 : Option Addr) (p s bl : Int) (cs : Option Addr) (n c : Nat) (w : World) :
    Calls Try.prog 34 #[.pointer u1, .pointer u2, .int .u32 p, .int .i64 s, .slice cs n c, .int .i64 bl] w fun e w' => e = .returned (.pointer (some ⟨w.heap.size, 0, none⟩)) ∧ w' = w.alloc (.cells #[.pointer u1, .pointer u2, .int .u32 p, .int .i64 s, .slice cs n c, .int .i64 bl] 103) := by
  go_enter Try.func34, Try.ntmps34
  go_wp2_with fail
  go_ret
  exact ⟨rfl, rfl⟩

theorem pieceSize_any (b : Nat) (s : Int) (w : World) (h : w.cell? ⟨b, 3, none⟩ = some (.int .i64 s)) :
    Calls Try.prog 41 #[.pointer (some ⟨b, 0, none⟩)] w fun e w' => e = .returned (.int .i64 s) ∧ w' = w := by
  go_enter Try.func41, Try.ntmps41
  go_wp2_with fail
  go_ret
  exact ⟨rfl, rfl⟩
theorem sizeB1_any (u : Option Addr) (s : Int) (w : World) (h : SizeIs w u s) :
    Calls Try.prog 33 #[.pointer u] w fun e w' => e = .returned (.int .i64 s) ∧ w' = w := by
  rcases h with ⟨rfl, rfl⟩ | ⟨b, rfl, hc⟩
  · go_enter Try.func33, Try.ntmps33
    go_wp2_with fail
    go_ret
    exact ⟨rfl, rfl⟩
  · have HX := hide (pieceSize_any b s w hc)
    clear hc
    go_enter Try.func33, Try.ntmps33
    go_wp2_with fail
    refine HX.out.mono ?_
    rintro e w' ⟨rfl, rfl⟩
    go_wp2_with fail
    go_ret
    exact ⟨rfl, rfl⟩

/-! ### make, of pairs -/
theorem info85 : (Try.prog.info? 85).map (fun i => (i.zero, i.size, i.bytes)) = some (some (.agg #[.int .i32 0, .int .u32 0]), 2, 8) := by kernel_rfl
theorem info87 : (Try.prog.info? 87).map (fun i => (i.zero, i.size, i.bytes)) = some (some (.agg #[.int .i32 0, .int .u32 0]), 2, 8) := by kernel_rfl
theorem made_pairs (n : Nat) : madeCells (Value.agg #[.int .i32 0, .int .u32 0]).cells (n * 2) = pairs n (fun _ => 0) (fun _ => 0) := by
  apply Array.ext_getElem?
  intro j
  have hz : (Value.agg #[.int .i32 0, .int .u32 0]).cells = #[.int .i32 0, .int .u32 0] := rfl
  rw [hz]
  by_cases hj : j < n * 2
  · simp only [madeCells, pairs, Array.getElem?_map, List.getElem?_toArray, List.getElem?_map]
    rw [List.getElem?_range (by omega)]
    have e1 : (Array.range (n * 2))[j]? = some j := by simp [hj]
    rw [e1]
    simp only [Option.map_some, Option.some.injEq]
    by_cases h2 : j % 2 = 0
    · rw [if_pos h2]; simp [h2]
    · have h3 : j % 2 = 1 := by omega
      rw [if_neg h2]; simp [h3]
  · rw [Array.getElem?_eq_none (by rw [size_madeCells]; omega), Array.getElem?_eq_none (by simp [pairs]; omega)]
theorem make80 (n : Nat) (h : n ≤ 131072) (w : World) :
    (Instr.makeSlice 80 (.int .i64 (n : Int)) (.int .i64 (n : Int))).run Try.prog w = .ok (.slice (some ⟨w.heap.size, 0, none⟩) n n) (w.alloc (.cells (pairs n (fun _ => 0) (fun _ => 0)) 85)) := by
  obtain ⟨i, hi, hz⟩ := Option.map_eq_some_iff.1 info85
  simp only [Prod.mk.injEq] at hz
  rw [run_make w 80 85 i _ Try.underlying80 hi hz.1 .i64 .i64 (n : Int) (n : Int) (by omega) (Int.le_refl _) (by rw [hz.2.2]; omega) (by omega), hz.2.1]
  simp only [Int.toNat_natCast]
  rw [made_pairs]
theorem make83 (n : Nat) (h : n ≤ 131072) (w : World) :
    (Instr.makeSlice 83 (.int .i64 (n : Int)) (.int .i64 (n : Int))).run Try.prog w = .ok (.slice (some ⟨w.heap.size, 0, none⟩) n n) (w.alloc (.cells (pairs n (fun _ => 0) (fun _ => 0)) 87)) := by
  obtain ⟨i, hi, hz⟩ := Option.map_eq_some_iff.1 info87
  simp only [Prod.mk.injEq] at hz
  rw [run_make w 83 87 i _ Try.underlying83 hi hz.1 .i64 .i64 (n : Int) (n : Int) (by omega) (Int.le_refl _) (by rw [hz.2.2]; omega) (by omega), hz.2.1]
  simp only [Int.toNat_natCast]
  rw [made_pairs]

/-- two stores, one pair -/
def putI (g : Nat → Int) (k : Nat) (v : Int) : Nat → Int := fun j => if j = k then v else g j
theorem pairs_set2 (n : Nat) (code sty : Nat → Int) (j : Nat) (x y : Int) (hj : j < n) : ((pairs n code sty).setIfInBounds (j * 2) (.int .i32 x)).setIfInBounds (j * 2 + 1) (.int .u32 y) = pairs n (putI code j x) (putI sty j y) := by
  apply Array.ext_getElem?
  intro i
  have hs : (pairs n code sty).size = 2 * n := by simp [pairs]
  rw [Array.getElem?_setIfInBounds, Array.getElem?_setIfInBounds]
  by_cases h1 : j * 2 + 1 = i
  · subst h1
    rw [if_pos rfl, Array.size_setIfInBounds, hs, if_pos (by omega), pairs_odd n _ _ j hj]
    simp [putI]
  · rw [if_neg h1]
    by_cases h2 : j * 2 = i
    · subst h2
      rw [if_pos rfl, hs, if_pos (by omega), pairs_even n _ _ j hj]
      simp [putI]
    · rw [if_neg h2]
      by_cases hi : i < 2 * n
      · simp only [pairs, List.getElem?_toArray, List.getElem?_map]
        rw [List.getElem?_range hi]
        simp only [Option.map_some, putI]
        by_cases h3 : i % 2 = 0
        · rw [if_pos h3, if_pos h3, if_neg (by omega)]
        · rw [if_neg h3, if_neg h3, if_neg (by omega)]
      · rw [Array.getElem?_eq_none (by rw [hs]; omega), Array.getElem?_eq_none (by simp [pairs]; omega)]

/-- a row of pairs in block g -/
structure PRow (w : World) (g : Nat) (ty : TypeId) (n : Nat) (code sty : Nat → Int) : Prop where
  h : w.heap[g]? = some (.cells (pairs n code sty) ty (0, 0))
theorem PRow.c0 {w : World} {g : Nat} {ty : TypeId} {n : Nat} {code sty : Nat → Int} (h : PRow w g ty n code sty) {j : Nat} (hj : j < n) : w.cell? ⟨g, j * 2, none⟩ = some (.int .i32 (code j)) := by
  rw [cell_of_row w g _ _ _ _ h.h]; exact pairs_even n code sty j hj
theorem PRow.c1 {w : World} {g : Nat} {ty : TypeId} {n : Nat} {code sty : Nat → Int} (h : PRow w g ty n code sty) {j : Nat} (hj : j < n) : w.cell? ⟨g, j * 2 + 1, none⟩ = some (.int .u32 (sty j)) := by
  rw [cell_of_row w g _ _ _ _ h.h]; exact pairs_odd n code sty j hj
theorem PRow.fr {w : World} {g : Nat} {ty : TypeId} {n : Nat} {code sty : Nat → Int} (h : PRow w g ty n code sty) (j : Nat) : w.frozen? ⟨g, j, none⟩ = false := frozen_of_row w g j _ _ h.h
theorem PRow.set {w : World} {g : Nat} {ty : TypeId} {n : Nat} {code sty : Nat → Int} (h : PRow w g ty n code sty) {j : Nat} (hj : j < n) (x y : Int) :
    PRow ((w.setCell ⟨g, j * 2, none⟩ (.int .i32 x)).setCell ⟨g, j * 2 + 1, none⟩ (.int .u32 y)) g ty n (putI code j x) (putI sty j y) := by
  refine ⟨?_⟩
  rw [heap_setCell_same _ g _ _ _ _ (heap_setCell_same w g _ _ _ _ h.h), pairs_set2 n code sty j x y hj]
theorem PRow.other {w : World} {g : Nat} {ty : TypeId} {n : Nat} {code sty : Nat → Int} (h : PRow w g ty n code sty) {b : Nat} (hb : g ≠ b) (i : Nat) (v : Value) : PRow (w.setCell ⟨b, i, none⟩ v) g ty n code sty :=
  ⟨by rw [heap_setCell_other _ _ _ _ hb]; exact h.h⟩
theorem PRow.alloc {w : World} {g : Nat} {ty : TypeId} {n : Nat} {code sty : Nat → Int} (h : PRow w g ty n code sty) (o : Obj) : PRow (w.alloc o) g ty n code sty :=
  ⟨by rw [Below.heap_alloc _ _ _ (Array.getElem?_eq_some_iff.1 h.h).1]; exact h.h⟩
theorem PRow.lt {w : World} {g : Nat} {ty : TypeId} {n : Nat} {code sty : Nat → Int} (h : PRow w g ty n code sty) : g < w.heap.size := (Array.getElem?_eq_some_iff.1 h.h).1

theorem wpList_app_run {P : Program} {w : World} {ops : Array Oper} {rest : List Oper} {o : Oper} {a : Act} {Q : Exit → Act → World → Prop} (hgd : o.guard = none) (sl x : Operand) (t u : TypeId)
    (ho : o.op = .call { callee := .builtin .append, args := #[sl, x], argTypes := #[t, u] }) (v y v' : Value) (w' : World) (hs : a.eval sl = v) (hx : a.eval x = y)
    (hr : ∀ ty, (Builtin.append_ #[t, u] ty #[v, y]).run P w = .ok v' w') (h : wpList P ops Q rest (a.put o.dst v') w') : wpList P ops Q (o :: rest) a w := by
  refine wpList_plain hgd fun K hK => ?_
  unfold Oper.wp execOp
  simp only [ho, resolve, invoke, builtin, Sem.run_bind, Sem.run_pure, Result.andThen_ok, List.map_toArray, List.map_cons, List.map_nil, hs, hx, hr]
  exact hK _ _ h
theorem step_app_run {P : Program} {ops : Array Oper} {o : Oper} {a : Act} {w : World} {K : Act → World → Prop} {Q : Exit → Act → World → Prop} {E : Prop} (hgd : o.guard = none) (sl x : Operand) (t u : TypeId)
    (ho : o.op = .call { callee := .builtin .append, args := #[sl, x], argTypes := #[t, u] }) (v y v' : Value) (w' : World) (hs : a.eval sl = v) (hx : a.eval x = y)
    (hr : ∀ ty, (Builtin.append_ #[t, u] ty #[v, y]).run P w = .ok v' w') (h : K (a.put o.dst v') w') :
    if Region.wanted o (yielded ops a.tmps) = true then Oper.wp P o a w K Q else E := by
  have hw : Region.wanted o (yielded ops a.tmps) = true := by simp [Region.wanted, hgd]
  rw [if_pos hw]
  unfold Oper.wp execOp
  simp only [ho, resolve, invoke, builtin, Sem.run_bind, Sem.run_pure, Result.andThen_ok, List.map_toArray, List.map_cons, List.map_nil, hs, hx, hr]
  exact h

end Go.Proofs.Qxb6601196a
