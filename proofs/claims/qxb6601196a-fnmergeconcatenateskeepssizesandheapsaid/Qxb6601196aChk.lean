import Derived.Test.Qxb6601196aHeap
import Derived.Deep.DeepCutAuto
import Derived.Lib.Builder
namespace Go.Proofs.Qxb6601196a
open Go.ChangeShapes Go.WideShapes Go.ChangeAt Go.RowKit Go.Deep

/-- the checker's six cells -/
def chkCells (want snap : Value) (v k : Int) (ok hp : Bool) : Array Value := #[want, snap, .int .i64 v, .int .i64 k, .bool ok, .bool hp]

/-- the checker stands in block C of wr; of what was there in w nothing else has turned -/
structure Run (w wr : World) (C : Nat) (want snap : Value) (v k : Int) (ok hp : Bool) : Prop where
  c : wr.heap[C]? = some (.cells (chkCells want snap v k ok hp) 42 (0, 0))
  g : w.grownBy wr (some C)
theorem Run.drewN {w wr : World} {C : Nat} {want snap : Value} {v k : Int} {ok hp : Bool} (h : Run w wr C want snap v k ok hp) (q : Nat) : Run w (wr.drewN q) C want snap v k ok hp := ⟨h.c, ⟨h.g.os, h.g.tape, h.g.output, h.g.size, h.g.block⟩⟩
theorem grown_trans {a b c : World} {r : Option Nat} (h : a.grownBy b r) (k : b.grownBy c r) : a.grownBy c r :=
  ⟨k.os.trans h.os, k.tape.trans h.tape, k.output.trans h.output, Nat.le_trans h.size k.size, fun i hi hne => by rw [k.block i (by have := h.size; omega) hne, h.block i hi hne]⟩
theorem grown_set {a b : World} {C : Nat} (h : a.grownBy b (some C)) (i : Nat) (v : Value) : a.grownBy (b.setCell ⟨C, i, none⟩ v) (some C) :=
  ⟨h.os, h.tape, h.output, by simpa [World.setCell] using h.size, fun k hk hne => by rw [heap_setCell_other _ _ _ _ (by intro e; subst e; exact hne rfl)]; exact h.block k hk hne⟩
theorem Run.visit {w wr : World} {C : Nat} {want snap : Value} {v k : Int} {ok hp : Bool} (h : Run w wr C want snap v k ok hp) (x : Int) : Run w (wr.setCell ⟨C, 2, none⟩ (.int .i64 x)) C want snap x k ok hp :=
  ⟨by rw [heap_setCell_same wr C 2 _ _ _ h.c]; rfl, grown_set h.g _ _⟩
theorem Run.next {w wr : World} {C : Nat} {want snap : Value} {v k : Int} {ok hp : Bool} (h : Run w wr C want snap v k ok hp) (x : Int) : Run w (wr.setCell ⟨C, 3, none⟩ (.int .i64 x)) C want snap v x ok hp :=
  ⟨by rw [heap_setCell_same wr C 3 _ _ _ h.c]; rfl, grown_set h.g _ _⟩
theorem Run.alloc {w wr : World} {C : Nat} {want snap : Value} {v k : Int} {ok hp : Bool} (h : Run w wr C want snap v k ok hp) (o : Obj) : Run w (wr.alloc o) C want snap v k ok hp :=
  ⟨by rw [Below.heap_alloc _ _ _ (by have := (Array.getElem?_eq_some_iff.1 h.c).1; exact this)]; exact h.c, grown_trans h.g (World.grownBy_alloc wr o _)⟩
/-- the checker's cells, to be read -/
structure ChkAt (wr : World) (C : Nat) (want snap : Value) (v k : Int) (ok hp : Bool) : Prop where
  c0 : wr.cell? ⟨C, 0, none⟩ = some want
  c1 : wr.cell? ⟨C, 1, none⟩ = some snap
  c2 : wr.cell? ⟨C, 2, none⟩ = some (.int .i64 v)
  c3 : wr.cell? ⟨C, 3, none⟩ = some (.int .i64 k)
  c4 : wr.cell? ⟨C, 4, none⟩ = some (.bool ok)
  c5 : wr.cell? ⟨C, 5, none⟩ = some (.bool hp)
  fr : ∀ j, wr.frozen? ⟨C, j, none⟩ = false
theorem Run.at {w wr : World} {C : Nat} {want snap : Value} {v k : Int} {ok hp : Bool} (h : Run w wr C want snap v k ok hp) : ChkAt wr C want snap v k ok hp where
  c0 := by rw [cell_of_row wr C 0 _ _ _ h.c]; rfl
  c1 := by rw [cell_of_row wr C 1 _ _ _ h.c]; rfl
  c2 := by rw [cell_of_row wr C 2 _ _ _ h.c]; rfl
  c3 := by rw [cell_of_row wr C 3 _ _ _ h.c]; rfl
  c4 := by rw [cell_of_row wr C 4 _ _ _ h.c]; rfl
  c5 := by rw [cell_of_row wr C 5 _ _ _ h.c]; rfl
  fr := fun j => frozen_of_row wr C j _ _ h.c

/-- what the checker holds a result against: want[j], snap[j] -/
structure Env (w : World) (C wb sb N : Nat) (L : List (Nat × PI)) : Prop where
  len : L.length = N
  want : ∀ j x, L[j]? = some x → w.cell? ⟨wb, j, none⟩ = some (.pointer (some ⟨x.1, 0, none⟩))
  s0 : ∀ j x, L[j]? = some x → w.cell? ⟨sb, j * 3, none⟩ = some (.int .u32 x.2.pr)
  s1 : ∀ j x, L[j]? = some x → w.cell? ⟨sb, j * 3 + 1, none⟩ = some (.int .i64 x.2.bl)
  s2 : ∀ j x, L[j]? = some x → w.cell? ⟨sb, j * 3 + 2, none⟩ = some x.2.sn
  wC : wb ≠ C
  sC : sb ≠ C

set_option maxRecDepth 100000 in
theorem chk_nil (C : Nat) (pp : Int) (hq : Bool) (w : World) :
    Calls Try.prog 17 #[.pointer (some ⟨C, 0, none⟩), .pointer none, .int .u32 pp, .bool hq] w fun e w' => e = .returned (.int .i64 0) ∧ w' = w := by
  go_enter Try.func17, Try.ntmps17
  go_wp2_with fail
  go_ret
  exact ⟨rfl, rfl⟩

/-- a tree stands where only the checker's block turns -/
theorem tin_run {w w' : World} {C : Nat} {c : Array Value} (hc : w.heap[C]? = some (.cells c 42 (0, 0))) (hg : w.grownBy w' (some C)) {T : BT PI} (h : TIn w T) : TIn w' T := by
  refine h.kept ?_ ?_
  · intro k c' t fr ht hk
    refine hg.block k (Array.getElem?_eq_some_iff.1 hk).1 ?_
    intro e
    injection e with e
    subst e
    rw [hc] at hk
    injection hk with hk
    injection hk with _ e _
    rcases ht with rfl | rfl <;> exact absurd e (by decide)
  · intro k hk
    obtain ⟨c', hk'⟩ := h.tag k hk
    refine hg.block k (Array.getElem?_eq_some_iff.1 hk').1 ?_
    intro e
    injection e with e
    subst e
    rw [hc] at hk'
    injection hk' with hk'
    injection hk' with _ e _
    exact absurd e (by decide)
theorem grown_cell {w w' : World} {C : Nat} (hg : w.grownBy w' (some C)) {a : Addr} {v : Value} (h : w.cell? a = some v) (hne : a.block ≠ C) : w'.cell? a = some v :=
  hg.cell h (by intro e; injection e with e; exact hne e)
theorem Env.grown {w w' : World} {C wb sb N : Nat} {L : List (Nat × PI)} (h : Env w C wb sb N L) (hg : w.grownBy w' (some C)) : Env w' C wb sb N L :=
  ⟨h.len, fun j x hx => grown_cell hg (h.want j x hx) h.wC, fun j x hx => grown_cell hg (h.s0 j x hx) h.sC, fun j x hx => grown_cell hg (h.s1 j x hx) h.sC, fun j x hx => grown_cell hg (h.s2 j x hx) h.sC, h.wC, h.sC⟩

theorem at_mid {L pre post : List (Nat × PI)} {b : Nat} {a : PI} {l r : BT PI} {kk : Nat} (h : L = pre ++ inorder (.node b 0 a l r) ++ post) (hk : kk = pre.length + nodesT l) : L[kk]? = some (b, a) := by
  rw [h, hk, ← nodesT_length l]
  simp [inorder]

/-- the local snapshot 'w', in block X -/
structure Loc (wr : World) (X : Nat) (pr bl : Int) (sn : Value) : Prop where
  h : wr.heap[X]? = some (.cells #[.int .u32 pr, .int .i64 bl, sn] 90 (0, 0))
theorem Loc.c2 {wr : World} {X : Nat} {pr bl : Int} {sn : Value} (h : Loc wr X pr bl sn) : wr.cell? ⟨X, 2, none⟩ = some sn := by rw [cell_of_row wr X 2 _ _ _ h.h]; rfl
theorem Loc.lt {wr : World} {X : Nat} {pr bl : Int} {sn : Value} (h : Loc wr X pr bl sn) : X < wr.heap.size := (Array.getElem?_eq_some_iff.1 h.h).1
theorem loc_new (wr : World) (X : Nat) (pr bl : Int) (sn : Value) (hX : X = wr.heap.size) : Loc (wr.alloc (.cells #[.int .u32 pr, .int .i64 bl, sn] 90)) X pr bl sn := by
  subst hX
  refine ⟨?_⟩
  show (wr.heap.push _)[wr.heap.size]? = _
  simp
theorem Loc.alloc {wr : World} {X : Nat} {pr bl : Int} {sn : Value} (h : Loc wr X pr bl sn) (o : Obj) : Loc (wr.alloc o) X pr bl sn := ⟨by rw [Below.heap_alloc _ _ _ h.lt]; exact h.h⟩

theorem info103 : (Try.prog.info? 103).isSome = true := by kernel_rfl
theorem neq_same (b : Nat) (w : World) : (binOp .neq 37 (.pointer (some ⟨b, 0, none⟩)) (.pointer (some ⟨b, 0, none⟩))).run Try.prog w = .ok (.bool false) w := by
  obtain ⟨j, hj⟩ := Option.isSome_iff_exists.1 info103
  exact Lib.run_neq_ptr_same w ⟨b, 0, none⟩ Try.underlying37 hj

/-! ### the cells of a piece -/
theorem cellFields_any (x y : Int) (w : World) :
    Calls Try.prog 37 #[.agg #[.int .i32 x, .int .u32 y]] w fun e w' => e = .returned (.tuple #[.int .i32 x, .int .u32 y]) ∧ ∃ q, w' = (w.alloc (.cells #[.int .i32 x, .int .u32 y] 87)).drewN q := by
  go_enter Try.func37, Try.ntmps37
  go_wp2_with fail
  go_quiet (fail)
  go_wp2_with fail
  go_ret2
  exact ⟨rfl, nq, rfl⟩

theorem pairs_even (n : Nat) (code sty : Nat → Int) (j : Nat) (h : j < n) : (pairs n code sty)[j * 2]? = some (.int .i32 (code j)) := by
  simp only [pairs, List.getElem?_toArray, List.getElem?_map]
  rw [List.getElem?_range (by omega)]
  simp only [Option.map_some]
  rw [if_pos (by omega), show j * 2 / 2 = j by omega]
theorem pairs_odd (n : Nat) (code sty : Nat → Int) (j : Nat) (h : j < n) : (pairs n code sty)[j * 2 + 1]? = some (.int .u32 (sty j)) := by
  simp only [pairs, List.getElem?_toArray, List.getElem?_map]
  rw [List.getElem?_range (by omega)]
  simp only [Option.map_some]
  rw [if_neg (by omega), show (j * 2 + 1) / 2 = j by omega]
theorem cells_read {w : World} {ty : TypeId} {v : Value} {nl : Bool} {n : Nat} {code sty : Nat → Int} (h : CellsAt w ty v nl n code sty) {x : Option Addr} {c : Nat} (hv : v = .slice x n c) {j : Nat} (hj : j < n) :
    ∃ g, x = some ⟨g, 0, none⟩ ∧ w.cell? ⟨g, j * 2, none⟩ = some (.int .i32 (code j)) ∧ w.cell? ⟨g, j * 2 + 1, none⟩ = some (.int .u32 (sty j)) ∧ nl = false := by
  rcases h with ⟨_, h2, _⟩ | ⟨h1, g, h2, h3⟩
  · omega
  · rw [h2] at hv
    injection hv with e1 _ _
    exact ⟨g, e1.symm, by rw [cell_of_row w g _ _ _ _ h3]; exact pairs_even n code sty j hj, by rw [cell_of_row w g _ _ _ _ h3]; exact pairs_odd n code sty j hj, h1⟩

/-- WHAT THE CHECKER'S walk DOES TO A TREE THAT STANDS IN ORDER -/
def ChkSaid (C wb sb N cw cs' : Nat) (L : List (Nat × PI)) (hp : Bool) (M : BT PI) : Prop :=
  ∀ (pre post : List (Nat × PI)) (v pp : Int) (hq : Bool) (w : World), Env w C wb sb N L → L = pre ++ inorder M ++ post → TIn w M →
    w.heap[C]? = some (.cells (chkCells (.slice (some ⟨wb, 0, none⟩) N cw) (.slice (some ⟨sb, 0, none⟩) N cs') v pre.length true hp) 42 (0, 0)) →
    0 ≤ v ∧ v + nodesT M ≤ N → (hp = true → heapT M) → (hp = true → hq = true → rootLe M pp) → NN M → colsT M ≤ 1073741824 → (∀ x, x ∈ inorder M → x.2.n ≤ 131072) →
    Calls Try.prog 17 #[.pointer (some ⟨C, 0, none⟩), M.ptr, .int .u32 pp, .bool hq] w fun e w' => e = .returned (.int .i64 (colsT M)) ∧
      Run w w' C (.slice (some ⟨wb, 0, none⟩) N cw) (.slice (some ⟨sb, 0, none⟩) N cs') (v + nodesT M) (pre.length + nodesT M) true hp

theorem grown_refl (w : World) (r : Option Nat) : w.grownBy w r := ⟨rfl, rfl, rfl, Nat.le_refl _, fun _ _ _ => rfl⟩

set_option maxRecDepth 100000 in
set_option maxHeartbeats 2000000 in
theorem chk_node (C wb sb N cw cs' : Nat) (L : List (Nat × PI)) (hp : Bool) (b : Nat) (a : PI) (l r : BT PI) (hN : N ≤ 16384)
    (ihl : ChkSaid C wb sb N cw cs' L hp l) (ihr : ChkSaid C wb sb N cw cs' L hp r) : ChkSaid C wb sb N cw cs' L hp (.node b 0 a l r) := by
  intro pre post v pp hq w hE hL hT hC hv hhp hroot hpl hcs hn17
  have HN := hide hn17
  have HN17 := hide (hn17 (b, a) (by simp [inorder]))
  clear hn17
  have hg : hp = true → hq = true → a.pr ≤ pp := hroot
  have HG := hide hg
  clear hg
  have hR : Run w w C _ _ v pre.length true hp := ⟨hC, grown_refl _ _⟩
  have hat := hR.at
  have z0 := hat.c0
  have z2 := hat.c2
  have z4 := hat.c4
  have z5 := hat.c5
  have f2 := hat.fr 2
  obtain ⟨u1, u2, cs, c, hu1, hu2, hcs4, hnl, hf⟩ := fields_tree b a l r w hT
  have HE := hide hE
  have HL := hide hL
  have HT := hide hT
  have HR := hide hR
  have HPL := hide hpl
  have HCS := hide hcs
  have HHP := hide hhp
  have HC := hide hC
  have hv1 := hv.1
  have hv2 : v + 1 ≤ N := by have := hv.2; rw [nodesT_node] at this; omega
  have HV := hide hv
  have HU1 := hide hu1
  have HU2 := hide hu2
  have HCS4 := hide hcs4
  have HNL := hide hnl
  rw [ptr_node]
  clear hE hL hT hR hat hpl hcs hv hroot hhp hC hu1 hu2 hcs4 hnl hf
  go_enter Try.func17, Try.ntmps17
  go_upto_region 4 with fail
  go_cut [49] (fun s wx => s = .bool false ∧ Run w wx C (.slice (some ⟨wb, 0, none⟩) N cw) (.slice (some ⟨sb, 0, none⟩) N cs') (v + 1) pre.length true hp)
  case first =>
    go_quiet (fail)
    go_wp2_with fail
    go_meet
    exact ⟨by rw [decide_eq_false (by omega)], (HR.out.visit (v + 1)).drewN nq⟩
  case rest =>
    obtain ⟨rfl, hr1⟩ := hcut
    clear z0 z2 z4 z5 f2
    -- the fields of p
    obtain ⟨u1', u2', cs1, c1, e1, e2, e3, e4, hf⟩ := fields_tree b a l r wc (tin_run HC.out hr1.g HT.out)
    rw [HU1.out] at e1
    rw [HU2.out] at e2
    rw [HCS4.out] at e3
    injection e1 with e1
    injection e2 with e2
    injection e3 with e3a _ e3b
    subst e1 e2 e3a e3b
    have z5 := hr1.at.c5
    have HF := hide hf
    have HR1 := hide hr1
    clear hf hr1
    go_wp2_with fail
    refine (HF.out _ (by rfl)).mono ?_
    rintro e w2 ⟨rfl, q, rfl⟩
    go_upto_region 8 with fail
    go_cut [73] (fun s wx => s = .bool false ∧ wx = wc.drewN q)
    case first =>
      have hg := HG.out
      clear HR1 HF HHP HC HR HE HL HT HPL HCS HV HU1 HU2 HCS4 HNL ihl ihr HG e4
      cases hp with
      | false =>
        clear hg
        go_wp2_with fail
        go_meet
        exact ⟨rfl, rfl⟩
      | true =>
        cases hq with
        | false =>
          clear hg
          go_wp2_with fail
          go_meet
          exact ⟨rfl, rfl⟩
        | true =>
          have hle := hg rfl rfl
          clear hg
          go_wp2_with fail
          go_meet
          exact ⟨by rw [decide_eq_false (by omega)], rfl⟩
    case rest =>
      obtain ⟨rfl, rfl⟩ := hcut
      clear z5
      -- the left tree
      have hE2 := HE.out.grown (HR1.out.drewN q).g
      have hv2' : v + 1 + nodesT l ≤ N := by have := HV.out.2; rw [nodesT_node] at this; omega
      have hcl : colsT l ≤ 1073741824 := by have h1 := HCS.out; rw [colsT_node] at h1; have := HPL.out.self; have := colsT_nonneg _ HPL.out.right; omega
      have hx := ihl pre ((b, a) :: inorder r ++ post) (v + 1) a.pr true (wc.drewN q) hE2 (by rw [HL.out]; simp [inorder]) (tin_run HC.out (HR1.out.drewN q).g HT.out).2.2.2.2.1 HR1.out.c ⟨by omega, hv2'⟩ (fun h => (HHP.out h).2.2.1) (fun h _ => (HHP.out h).1) HPL.out.left hcl (fun x hx => HN.out x (by simp [inorder, hx]))
      rw [HU1.out] at hx
      have HX := hide hx
      clear hx hE2 hcl hv2'
      go_wp2_with fail
      refine HX.out.mono ?_
      rintro e w2 ⟨rfl, hr2⟩
      have HR2 := hide (show Run w w2 C _ _ _ _ true hp from ⟨hr2.c, grown_trans HR1.out.g ⟨hr2.g.os, hr2.g.tape, hr2.g.output, hr2.g.size, hr2.g.block⟩⟩)
      clear hr2 HX HR1 HF
      -- the k-th piece met
      obtain ⟨kk, hkk⟩ : ∃ kk : Nat, kk = pre.length + nodesT l := ⟨_, rfl⟩
      have ekk : ((pre.length : Int) + (nodesT l : Int)) = (kk : Int) := by omega
      rw [ekk] at HR2
      have hat : L[kk]? = some (b, a) := at_mid HL.out hkk
      have hkN : kk < N := by rw [← HE.out.len]; exact (List.getElem?_eq_some_iff.1 hat).1
      have hE2 := HE.out.grown HR2.out.g
      obtain ⟨sx, sc, hsn, hsnl⟩ := cs_form HT.out.2.2.2.1
      have y0 := hE2.want kk _ hat
      have y1 := hE2.s0 kk _ hat
      have y2 := hE2.s1 kk _ hat
      have y3 := hE2.s2 kk _ hat
      simp only at y0 y1 y2 y3
      rw [hsn] at y3
      have z0 := HR2.out.at.c0
      have z1 := HR2.out.at.c1
      have z3 := HR2.out.at.c3
      have z4 := HR2.out.at.c4
      have f3 := HR2.out.at.fr 3
      have hCw : C < w2.heap.size := (Array.getElem?_eq_some_iff.1 HR2.out.c).1
      have hwC := hE2.wC
      have hsC := hE2.sC
      have hsw : sb < w2.heap.size := block_lt_of_cell y1
      have hww : wb < w2.heap.size := block_lt_of_cell y0
      have HKK := hide hkk
      have HAT := hide hat
      have HSN := hide hsn
      have HSNL := hide hsnl
      clear hkk ekk hat hE2 hsn hsnl
      go_upto_region 17 with fail
      go_cut [124] (fun s wx => s = .bool false ∧ Run w wx C (.slice (some ⟨wb, 0, none⟩) N cw) (.slice (some ⟨sb, 0, none⟩) N cs') (v + 1 + nodesT l) (kk + 1) true hp ∧ Loc wx w2.heap.size a.pr a.bl (.slice sx a.n sc))
      case first =>
        have hne := neq_same b
        go_wp2_with fail
        go_meet
        exact ⟨rfl, (HR2.out.next _).alloc _, loc_new _ _ _ _ _ (by simp [World.setCell])⟩
      case rest =>
        obtain ⟨rfl, hr3, hloc⟩ := hcut
        clear y0 y1 y2 y3 z0 z1 z3 z4 f3 hsw hww hsC hwC HR2
        have hX : w2.heap.size < wc.heap.size := hloc.lt
        generalize w2.heap.size = X at *
        clear hCw
        have HR3 := hide hr3
        have HLO := hide hloc
        have x2 := hloc.c2
        clear hr3 hloc
        go_upto_region 20 with fail
        go_cut [141] (fun s wx => s = .bool false ∧ wx = wc)
        case first =>
          have hn1 := HNL.out
          have hn2 := HSNL.out
          clear HR3 HLO HHP HC HR HE HL HT HPL HCS HV HU1 HU2 HCS4 HNL ihl ihr HG e4 HKK HAT HSN HSNL
          cases cs with
          | none =>
            cases sx with
            | some y => rw [← hn1] at hn2; cases hn2
            | none =>
              have hq1 := fun w => Lib.run_eql_slice_nil (P := Try.prog) w 83 87 none a.n c 0 0 Try.underlying83
              have hq2 := fun w => Lib.run_eql_slice_nil (P := Try.prog) w 80 85 none a.n sc 0 0 Try.underlying80
              clear hn1 hn2
              go_wp2_with fail
              go_meet
              exact ⟨by simp, rfl⟩
          | some x =>
            cases sx with
            | none => rw [← hn1] at hn2; cases hn2
            | some y =>
              have hq1 := fun w => Lib.run_eql_slice_nil (P := Try.prog) w 83 87 (some x) a.n c 0 0 Try.underlying83
              have hq2 := fun w => Lib.run_eql_slice_nil (P := Try.prog) w 80 85 (some y) a.n sc 0 0 Try.underlying80
              clear hn1 hn2
              go_wp2_with fail
              go_meet
              exact ⟨by simp, rfl⟩
        case rest =>
          obtain ⟨rfl, rfl⟩ := hcut
          go_wp2_with fail
          -- the cells, one by one
          go_loopw [18] (fun i wr => ∃ j : Nat, j ≤ a.n ∧ i = .int .i64 j ∧ Run w wr C (.slice (some ⟨wb, 0, none⟩) N cw) (.slice (some ⟨sb, 0, none⟩) N cs') (v + 1 + nodesT l) (kk + 1) true hp ∧ Loc wr X a.pr a.bl (.slice sx a.n sc)) (fun i _ => a.n - (intOf i).toNat)
          case atStart => exact ⟨0, Nat.zero_le _, rfl, HR3.out, HLO.out⟩
          case round =>
            clear HR3 HLO x2
            obtain ⟨j, hj, rfl, hr4, hlo4⟩ := hrel
            by_cases hlt : j < a.n
            · obtain ⟨g1, rfl, d1, d2, _⟩ := cells_read (tin_run HC.out hr4.g HT.out).2.2.1 HCS4.out hlt
              obtain ⟨g2, rfl, d3, d4, _⟩ := cells_read (tin_run HC.out hr4.g HT.out).2.2.2.1 HSN.out hlt
              have x2 := hlo4.c2
              have hXl := hlo4.lt
              have k1 := block_lt_of_cell d1
              have k2 := block_lt_of_cell d3
              simp only at k1 k2
              have HR4 := hide (fun q => (hr4.alloc (.cells #[.int .i32 (a.code j), .int .u32 (a.sty j)] 87)).drewN q)
              have HLO4 := hide (hlo4.alloc (.cells #[.int .i32 (a.code j), .int .u32 (a.sty j)] 87))
              have hj31 : a.n ≤ 131072 := HN17.out
              clear hr4 hlo4
              go_wp2_with (go_at_call 37; refine (cellFields_any _ _ _).mono ?_; rintro e w' ⟨rfl, q5, rfl⟩)
              go_roundw
              case rel => exact ⟨j + 1, by omega, by go_num, HR4.out q5, ⟨HLO4.out.h⟩⟩
              case measure => simp [intOf]; omega
            · have HR4 := hide hr4
              have hq1 : ∀ w, (binOp .neq 83 (.slice cs a.n c) (.slice none 0 0)).run Try.prog w = .ok (.bool (!a.nl)) w := fun w => by
                rw [← HNL.out]; exact run_neq_slice_nil_any (P := Try.prog) w 83 87 cs a.n c 0 0 Try.underlying83
              clear hr4 hlo4
              go_upto_if 182 with fail
              go_cut [21] (fun s wx => s = .int .i64 a.cols ∧ wx = wr)
              case first =>
                clear HR4 HHP HC HR HE HL HT HPL HCS HV HU1 HU2 HCS4 HNL ihl ihr HG e4 HKK HAT HSN HSNL hq1
                have HEE := hide (show a.cols = if a.nl = true then a.bl else (a.n : Int) from rfl)
                generalize a.nl = nl at *
                cases nl with
                | true =>
                  go_wp2_with fail
                  go_meet
                  exact ⟨by rw [HEE.out]; rfl, rfl⟩
                | false =>
                  go_wp2_with fail
                  go_meet
                  exact ⟨by rw [HEE.out]; rfl, rfl⟩
              case rest =>
                obtain ⟨rfl, rfl⟩ := hcut
                clear hq1
                -- the right tree
                have hE4 := HE.out.grown HR4.out.g
                have hv4 : v + 1 + nodesT l + nodesT r ≤ N := by have := HV.out.2; rw [nodesT_node] at this; omega
                have hcr : colsT r ≤ 1073741824 := by have h1 := HCS.out; rw [colsT_node] at h1; have := HPL.out.self; have := colsT_nonneg _ HPL.out.left; omega
                have ek : (((pre ++ inorder l ++ [(b, a)]).length : Nat) : Int) = (kk : Int) + 1 := by
                  have := HKK.out
                  simp only [List.length_append, nodesT_length, List.length_cons, List.length_nil]
                  omega
                have hx := ihr (pre ++ inorder l ++ [(b, a)]) post (v + 1 + nodesT l) a.pr true wc hE4 (by rw [HL.out]; simp [inorder]) (tin_run HC.out HR4.out.g HT.out).2.2.2.2.2 (by rw [ek]; exact HR4.out.c) ⟨by omega, hv4⟩ (fun h => (HHP.out h).2.2.2) (fun h _ => (HHP.out h).2.1) HPL.out.right hcr (fun x hx => HN.out x (by simp [inorder, hx]))
                rw [HU2.out, ek] at hx
                have HX := hide hx
                clear hx hE4 hcr hv4 ek
                go_wp2_with fail
                refine HX.out.mono ?_
                rintro e w5 ⟨rfl, hr5⟩
                have z4 := hr5.at.c4
                have b1 := colsT_nonneg _ HPL.out.left
                have b2 := colsT_nonneg _ HPL.out.right
                have b3 := HPL.out.self
                have b4 := HCS.out
                rw [colsT_node] at b4
                have HR5 := hide (show Run w w5 C _ _ _ _ true hp from ⟨hr5.c, grown_trans HR4.out.g hr5.g⟩)
                clear hr5 HX HR4
                go_wp2_with fail
                go_ret
                refine ⟨rfl, ?_⟩
                have e1 : v + ↑(nodesT (.node b 0 a l r)) = v + 1 + ↑(nodesT l) + ↑(nodesT r) := by rw [nodesT_node]; omega
                have e2 : (pre.length : Int) + ↑(nodesT (.node b 0 a l r)) = (kk : Int) + 1 + ↑(nodesT r) := by have := HKK.out; rw [nodesT_node]; omega
                rw [e1, e2]
                exact HR5.out

theorem chk_any (C wb sb N cw cs' : Nat) (L : List (Nat × PI)) (hp : Bool) (hN : N ≤ 16384) : ∀ M : BT PI, ChkSaid C wb sb N cw cs' L hp M := by
  intro M
  induction M with
  | nil =>
    intro pre post v pp hq w hE hL hT hC hv hhp hroot hpl hcs hn17
    rw [ptr_nil]
    refine (chk_nil C pp hq w).mono ?_
    rintro e w' ⟨rfl, rfl⟩
    refine ⟨rfl, ?_⟩
    have e1 : v + ((nodesT .nil : Nat) : Int) = v := by simp [nodesT]
    have e2 : (pre.length : Int) + ((nodesT .nil : Nat) : Int) = pre.length := by simp [nodesT]
    rw [e1, e2]
    exact ⟨hC, grown_refl _ _⟩
  | node b o a l r ihl ihr =>
    intro pre post v pp hq w hE hL hT
    obtain rfl : o = 0 := hT.1
    exact chk_node C wb sb N cw cs' L hp b a l r hN ihl ihr pre post v pp hq w hE hL hT

end Go.Proofs.Qxb6601196a
