import Derived.Test.Qxb6601196aMake
import Derived.Deep.RegionLaw
import Derived.BigRegion
namespace Go.Proofs.Qxb6601196a
open Go.ChangeShapes Go.WideShapes Go.ChangeAt Go.RowKit Go.Deep
set_option linter.unusedVariables false

/-- R is a copy of T: the same shape, the same content -/
def Copy : BT PayT → BT PI → Prop
  | .nil, .nil => True
  | .node _ _ p l r, .node _ _ a l' r' => a.pr = p.pr ∧ a.bl = p.bl ∧ a.nl = p.a.isNone ∧ a.n = p.n ∧ Copy l l' ∧ Copy r r'
  | _, _ => False
def ptrs (R : BT PI) : List Value := (inorder R).map fun x => .pointer (some ⟨x.1, 0, none⟩)
def snaps (R : BT PI) : List (Int × Int × Value) := (inorder R).map fun x => (x.2.pr, x.2.bl, x.2.sn)

/-- what building leaves -/
structure Built (w w' : World) (Bd : Nat) (T : BT PayT) (R : BT PI) : Prop where
  tin : TIn w' R
  copy : Copy T R
  new : ∀ x, x ∈ blocks R → w.heap.size ≤ x ∧ x < w'.heap.size
  nodup : (blocks R).Nodup
  keep : Keep w w' Bd

def BuildSaid (Bd : Nat) (T : BT PayT) : Prop :=
  ∀ (nd : Int) (ov sv : Value) (Ls : List Value) (Ss : List (Int × Int × Value)) (w : World), BSt w Bd nd ov sv Ls Ss → PTIn w Bd T → Fits T → 0 ≤ nd → nd + nodesP T ≤ 16384 → Ls.length + nodesP T ≤ 16384 → Ss.length + nodesP T ≤ 16384 → colsP T ≤ 1073741824 →
    Calls Try.prog 14 #[.pointer (some ⟨Bd, 0, none⟩), T.ptr] w fun e w' => ∃ R ov' sv', e = .returned R.ptr ∧ BSt w' Bd (nd + nodesP T) ov' sv' (Ls ++ ptrs R) (Ss ++ snaps R) ∧ Built w w' Bd T R

theorem fits_nonneg : ∀ T : BT PayT, Fits T → 0 ≤ colsP T
  | .nil, _ => by simp [colsP]
  | .node b o p l r, ⟨h1, _, h3, h4⟩ => by
    have := fits_nonneg l h3
    have := fits_nonneg r h4
    simp only [colsP]; omega
theorem copy_cols : ∀ (T : BT PayT) (R : BT PI), Copy T R → colsT R = colsP T
  | .nil, .nil, _ => rfl
  | .node _ _ p l r, .node _ _ a l' r', ⟨h1, h2, h3, h4, h5, h6⟩ => by
    simp only [colsT, colsP]
    rw [copy_cols l l' h5, copy_cols r r' h6]
    have : a.cols = p.cols := by unfold PI.cols PayT.cols; rw [h3, h2, h4]
    omega
  | .nil, .node _ _ _ _ _, h => by cases h
  | .node _ _ _ _ _, .nil, h => by cases h
theorem copy_nodes : ∀ (T : BT PayT) (R : BT PI), Copy T R → nodesT R = nodesP T
  | .nil, .nil, _ => rfl
  | .node _ _ p l r, .node _ _ a l' r', ⟨h1, h2, h3, h4, h5, h6⟩ => by
    simp only [nodesT, nodesP]
    rw [copy_nodes l l' h5, copy_nodes r r' h6]
  | .nil, .node _ _ _ _ _, h => by cases h
  | .node _ _ _ _ _, .nil, h => by cases h
theorem ptrs_length (R : BT PI) : (ptrs R).length = nodesT R := by simp [ptrs, nodesT_length]
theorem snaps_length (R : BT PI) : (snaps R).length = nodesT R := by simp [snaps, nodesT_length]

set_option maxRecDepth 100000 in
theorem build_nil (Bd : Nat) : BuildSaid Bd .nil := by
  intro nd ov sv Ls Ss w hst hT hF h0 h1 h2 h3 h4
  rw [show (BT.nil : BT PayT).ptr = .pointer none from rfl]
  have HST := hide hst
  clear hst hT hF h0 h1 h2 h3 h4
  go_enter Try.func14, Try.ntmps14
  go_wp2_with fail
  go_ret
  exact ⟨.nil, ov, sv, rfl, by simpa [nodesP, ptrs, snaps, inorder] using HST.out, trivial, trivial, by simp [blocks, inorder], by simp [blocks, inorder], Keep.refl _ _⟩

/-- what is known of the argument's node in a later world -/
structure NodeAt (w : World) (b o : Nat) (u1 u2 : Option Addr) (p : PayT) : Prop where
  c0 : w.cell? ⟨b, o, none⟩ = some (.pointer u1)
  c1 : w.cell? ⟨b, o + 1, none⟩ = some (.pointer u2)
  c2 : w.cell? ⟨b, o + 2, none⟩ = some (.int .u32 p.pr)
  c3 : w.cell? ⟨b, o + 3, none⟩ = some (.slice p.a p.n p.cap)
  c4 : w.cell? ⟨b, o + 4, none⟩ = some (.int .i64 p.bl)
theorem node_at {w : World} {Bd b o : Nat} {p : PayT} {l r : BT PayT} (h : PTIn w Bd (.node b o p l r)) {u1 u2 : Option Addr} (h1 : l.ptr = .pointer u1) (h2 : r.ptr = .pointer u2) : NodeAt w b o u1 u2 p := by
  obtain ⟨_, c0, c1, c2, c3, c4, _⟩ := h
  rw [h1] at c0
  rw [h2] at c1
  exact ⟨c0, c1, c2, c3, c4⟩

/-- what stands behind the copying of a node's cells -/
structure Copied (W wx : World) (Bd : Nat) (p : PayT) (nd : Int) (ov sv : Value) (Ls : List Value) (Ss : List (Int × Int × Value)) (snc cs : Value) : Prop where
  cs : CellsAt wx 87 cs p.a.isNone p.n p.code p.sty
  sn : CellsAt wx 85 snc p.a.isNone p.n p.code p.sty
  st : BSt wx Bd nd ov sv Ls Ss
  keep : Keep W wx Bd

/-- the loop: j pairs are copied -/
structure Cells2 (W wr : World) (Bd X : Nat) (p : PayT) (nd : Int) (ov sv : Value) (Ls : List Value) (Ss : List (Int × Int × Value)) (j1 j2 : Nat) : Prop where
  sn : PRow wr X 85 p.n (fun i => if i < j1 then p.code i else 0) (fun i => if i < j1 then p.sty i else 0)
  cs : PRow wr (X + 1) 87 p.n (fun i => if i < j2 then p.code i else 0) (fun i => if i < j2 then p.sty i else 0)
  st : BSt wr Bd nd ov sv Ls Ss
  keep : Keep W wr Bd
theorem PRow.congr {w : World} {g : Nat} {ty : TypeId} {n : Nat} {code sty code' sty' : Nat → Int} (h : PRow w g ty n code sty) (h1 : ∀ j, j < n → code j = code' j) (h2 : ∀ j, j < n → sty j = sty' j) : PRow w g ty n code' sty' := by
  refine ⟨?_⟩
  rw [h.h]
  have e : pairs n code sty = pairs n code' sty' := by
    unfold pairs
    congr 1
    apply List.map_congr_left
    intro j hj
    have hj' : j < 2 * n := by simpa using hj
    by_cases h3 : j % 2 = 0
    · rw [if_pos h3, if_pos h3, h1 _ (by omega)]
    · rw [if_neg h3, if_neg h3, h2 _ (by omega)]
  rw [e]
theorem putI_step (f : Nat → Int) (j i : Nat) : putI (fun i => if i < j then f i else 0) j (f j) i = if i < j + 1 then f i else 0 := by
  simp only [putI]
  by_cases e : i = j
  · subst e; simp
  · rw [if_neg e]
    by_cases e2 : i < j
    · rw [if_pos e2, if_pos (by omega)]
    · rw [if_neg e2, if_neg (by omega)]
theorem keep_set_new {a b : World} {Bd g : Nat} (h : Keep a b Bd) (hg : a.heap.size ≤ g) (hB : Bd < a.heap.size) (i : Nat) (v : Value) : Keep a (b.setCell ⟨g, i, none⟩ v) Bd :=
  ⟨h.os, h.tape, h.output, by simpa [World.setCell] using h.size, fun k hk hne ht => by rw [heap_setCell_other _ _ _ _ (by simp only; omega)]; exact h.block k hk hne ht⟩
theorem Cells2.putS {W wr : World} {Bd X : Nat} {p : PayT} {nd : Int} {ov sv : Value} {Ls : List Value} {Ss : List (Int × Int × Value)} {j j2 : Nat} (h : Cells2 W wr Bd X p nd ov sv Ls Ss j j2) (hj : j < p.n) (hX : W.heap.size ≤ X) (hB : Bd < W.heap.size) :
    Cells2 W ((wr.setCell ⟨X, j * 2, none⟩ (.int .i32 (p.code j))).setCell ⟨X, j * 2 + 1, none⟩ (.int .u32 (p.sty j))) Bd X p nd ov sv Ls Ss (j + 1) j2 where
  sn := (h.sn.set hj _ _).congr (fun i _ => putI_step _ _ _) (fun i _ => putI_step _ _ _)
  cs := (h.cs.other (by omega) _ _).other (by omega) _ _
  st := (h.st.other h.sn.h (by decide) (by decide) (by decide) _ _).other (heap_setCell_same _ _ _ _ _ _ h.sn.h) (by decide) (by decide) (by decide) _ _
  keep := keep_set_new (keep_set_new h.keep hX hB _ _) hX hB _ _
theorem Cells2.putC {W wr : World} {Bd X : Nat} {p : PayT} {nd : Int} {ov sv : Value} {Ls : List Value} {Ss : List (Int × Int × Value)} {j1 j : Nat} (h : Cells2 W wr Bd X p nd ov sv Ls Ss j1 j) (hj : j < p.n) (hX : W.heap.size ≤ X) (hB : Bd < W.heap.size) :
    Cells2 W ((wr.setCell ⟨X + 1, j * 2, none⟩ (.int .i32 (p.code j))).setCell ⟨X + 1, j * 2 + 1, none⟩ (.int .u32 (p.sty j))) Bd X p nd ov sv Ls Ss j1 (j + 1) where
  sn := (h.sn.other (by omega) _ _).other (by omega) _ _
  cs := (h.cs.set hj _ _).congr (fun i _ => putI_step _ _ _) (fun i _ => putI_step _ _ _)
  st := (h.st.other h.cs.h (by decide) (by decide) (by decide) _ _).other (heap_setCell_same _ _ _ _ _ _ h.cs.h) (by decide) (by decide) (by decide) _ _
  keep := keep_set_new (keep_set_new h.keep (by omega) hB _ _) (by omega) hB _ _
theorem Cells2.alloc {W wr : World} {Bd X : Nat} {p : PayT} {nd : Int} {ov sv : Value} {Ls : List Value} {Ss : List (Int × Int × Value)} {j1 j2 : Nat} (h : Cells2 W wr Bd X p nd ov sv Ls Ss j1 j2) (o : Obj) : Cells2 W (wr.alloc o) Bd X p nd ov sv Ls Ss j1 j2 :=
  ⟨h.sn.alloc o, h.cs.alloc o, h.st.alloc o, h.keep.alloc o⟩
theorem Cells2.drewN {W wr : World} {Bd X : Nat} {p : PayT} {nd : Int} {ov sv : Value} {Ls : List Value} {Ss : List (Int × Int × Value)} {j1 j2 : Nat} (h : Cells2 W wr Bd X p nd ov sv Ls Ss j1 j2) (q : Nat) : Cells2 W (wr.drewN q) Bd X p nd ov sv Ls Ss j1 j2 :=
  ⟨⟨h.sn.h⟩, ⟨h.cs.h⟩, h.st.drewN q, h.keep.drewN q⟩
theorem cells2_start {W : World} {Bd : Nat} {p : PayT} {nd : Int} {ov sv : Value} {Ls : List Value} {Ss : List (Int × Int × Value)} (h : BSt W Bd nd ov sv Ls Ss) :
    Cells2 W ((W.alloc (.cells (pairs p.n (fun _ => 0) (fun _ => 0)) 85)).alloc (.cells (pairs p.n (fun _ => 0) (fun _ => 0)) 87)) Bd W.heap.size p nd ov sv Ls Ss 0 0 where
  sn := by
    refine PRow.alloc ⟨?_⟩ _
    show (W.heap.push _)[W.heap.size]? = _
    simp
  cs := by
    refine ⟨?_⟩
    have e : (W.alloc (.cells (pairs p.n (fun _ => 0) (fun _ => 0)) 85)).heap.size = W.heap.size + 1 := by simp
    rw [← e]
    show ((W.alloc (.cells (pairs p.n (fun _ => 0) (fun _ => 0)) 85)).heap.push _)[(W.alloc (.cells (pairs p.n (fun _ => 0) (fun _ => 0)) 85)).heap.size]? = _
    rw [Array.getElem?_push, if_pos rfl]
    simp
  st := (h.alloc _).alloc _
  keep := ((Keep.refl W Bd).alloc _).alloc _

theorem copied_of {W wr : World} {Bd X : Nat} {p : PayT} {nd : Int} {ov sv : Value} {Ls : List Value} {Ss : List (Int × Int × Value)} {j : Nat} (h : Cells2 W wr Bd X p nd ov sv Ls Ss j j) (hj : p.n ≤ j) {x : Addr} (ha : p.a = some x) :
    Copied W wr Bd p nd ov sv Ls Ss (.slice (some ⟨X, 0, none⟩) p.n p.n) (.slice (some ⟨X + 1, 0, none⟩) p.n p.n) where
  cs := .inr ⟨by rw [ha]; rfl, X + 1, rfl, (h.cs.congr (code' := p.code) (sty' := p.sty) (fun i hi => by rw [if_pos (by omega)]) (fun i hi => by rw [if_pos (by omega)])).h⟩
  sn := .inr ⟨by rw [ha]; rfl, X, rfl, (h.sn.congr (code' := p.code) (sty' := p.sty) (fun i hi => by rw [if_pos (by omega)]) (fun i hi => by rw [if_pos (by omega)])).h⟩
  st := h.st
  keep := h.keep

/-- place k of a row of pointers of the call's own: what is there, and what a store makes of the row -/
theorem row_at {w : World} {base : Nat} {v : Value} {L : List Value} (h : w.ownsRow base 37 1 v L.length L) {n k : Nat} (hn : n = L.length) (hk : k < n) :
    ∃ g c, v = .slice (some ⟨g, 0, none⟩) n c ∧ (∃ u, w.cell? ⟨g, k, none⟩ = some u) ∧ w.frozen? ⟨g, k, none⟩ = false ∧
      (base ≤ g ∧ (∃ c', w.heap[g]? = some (.cells c' 37 (0, 0))) ∧ ∀ u, (w.setCell ⟨g, k, none⟩ u).ownsRow base 37 1 v (L.set k u).length (L.set k u)) := by
  subst hn
  have h0 := h
  rcases h.2 with ⟨_, h2⟩ | ⟨g, cap, cur, hv, hb, hh, _, _, _, _⟩
  · omega
  · subst hv
    refine ⟨g, cap, rfl, ⟨L[k], ?_⟩, World.ownsRow.frozenAt (h := h0) k, hb, ⟨cur, hh⟩, ?_⟩
    · rw [World.ownsRow.cellAt (h := h0) k (by omega)]
      exact List.getElem?_eq_getElem hk
    · intro u
      rw [List.length_set]
      exact (World.ownsRow.stored (h := h0) k u).1

theorem set_mid (A B : List Value) (x y : Value) : (A ++ x :: B).set A.length y = A ++ y :: B := by simp
theorem ptrs_node (b o : Nat) (a : PI) (l r : BT PI) : ptrs (.node b o a l r) = ptrs l ++ .pointer (some ⟨b, 0, none⟩) :: ptrs r := by simp [ptrs, inorder]
theorem snaps_node (b o : Nat) (a : PI) (l r : BT PI) : snaps (.node b o a l r) = snaps l ++ (a.pr, a.bl, a.sn) :: snaps r := by simp [snaps, inorder]

/-- the piece that is made of p -/
def pieceOf (p : PayT) (cs sn : Value) : PI := { pr := p.pr, bl := p.bl, nl := p.a.isNone, n := p.n, code := p.code, sty := p.sty, cs := cs, sn := sn }

/-- what stands at build's end -/
theorem build_fin {w w1 w2 W3 wa wb w7 wc : World} {Bd b o : Nat} {p : PayT} {l r : BT PayT} {Rl Rr : BT PI} {nd nd5 nd7 : Int} {ov7 ov5 sv5 sv7 ov7' sv7' : Value} {Ls L5 : List Value} {Ss S5 : List (Int × Int × Value)} {n1 q og : Nat} {v1 v2 cx sx : Option Addr} {cc sc : Nat}
    (hbB : b < Bd) (hsz : w1.heap.size = w.heap.size) (hbl : Built w1 w2 Bd l Rl) (hk2b : Keep w2 wb Bd) (hb2 : w2.heap[Bd]? = some (.cells (bldCells nd5 ov5 sv5) 36 (0, 0))) (hbr : Built wb w7 Bd r Rr) (hkb : Keep w wb Bd)
    (hcp : Copied W3 wa Bd p nd ov7' sv7' L5 S5 (.slice sx p.n sc) (.slice cx p.n cc)) (hka : Keep wa w7 Bd)
    (hst7 : BSt w7 Bd nd7 ov7 sv7 (Ls ++ ptrs Rl ++ [.pointer none] ++ ptrs Rr) (Ss ++ snaps Rl ++ [(p.pr, p.bl, .slice sx p.n sc)] ++ snaps Rr))
    (hst8 : BSt wc Bd nd7 ov7 sv7 (Ls ++ ptrs Rl ++ [.pointer none] ++ ptrs Rr) (Ss ++ snaps Rl ++ [(p.pr, p.bl, .slice sx p.n sc)] ++ snaps Rr)) (hn1 : n1 = (Ls ++ ptrs Rl).length)
    (hq : wc = (w7.alloc (.cells #[.pointer v1, .pointer v2, .int .u32 p.pr, .int .i64 (colsP l + p.cols + colsP r), .slice cx p.n cc, .int .i64 p.bl] 103)).drewN q)
    (hog : Bd + 1 ≤ og) (hrow : ∃ c', wc.heap[og]? = some (.cells c' 37 (0, 0)))
    (hset : ∀ u, (wc.setCell ⟨og, n1, none⟩ u).ownsRow (Bd + 1) 37 1 ov7 ((Ls ++ ptrs Rl ++ [Value.pointer none] ++ ptrs Rr).set n1 u).length ((Ls ++ ptrs Rl ++ [Value.pointer none] ++ ptrs Rr).set n1 u))
    (hv1 : Rl.ptr = .pointer v1) (hv2 : Rr.ptr = .pointer v2) :
    BSt (wc.setCell ⟨og, n1, none⟩ (.pointer (some ⟨w7.heap.size, 0, none⟩))) Bd nd7 ov7 sv7 (Ls ++ ptrs (.node w7.heap.size 0 (pieceOf p (.slice cx p.n cc) (.slice sx p.n sc)) Rl Rr)) (Ss ++ snaps (.node w7.heap.size 0 (pieceOf p (.slice cx p.n cc) (.slice sx p.n sc)) Rl Rr)) ∧
      Built w (wc.setCell ⟨og, n1, none⟩ (.pointer (some ⟨w7.heap.size, 0, none⟩))) Bd (.node b o p l r) (.node w7.heap.size 0 (pieceOf p (.slice cx p.n cc) (.slice sx p.n sc)) Rl Rr) := by
  obtain ⟨c', hc'⟩ := hrow
  have hogs : og < wc.heap.size := (Array.getElem?_eq_some_iff.1 hc').1
  have hsz7 : wc.heap.size = w7.heap.size + 1 := by rw [hq]; simp
  have hpiece : wc.heap[w7.heap.size]? = some (.cells #[.pointer v1, .pointer v2, .int .u32 p.pr, .int .i64 (colsP l + p.cols + colsP r), .slice cx p.n cc, .int .i64 p.bl] 103 (0, 0)) := by
    rw [hq]
    show (w7.heap.push _)[w7.heap.size]? = _
    simp
  have hogne : og ≠ w7.heap.size := by
    intro e
    rw [e, hpiece] at hc'
    injection hc' with hc'
    injection hc' with _ e _
    exact absurd e (by decide)
  have hk78 : Keep w7 (wc.setCell ⟨og, n1, none⟩ (.pointer (some ⟨w7.heap.size, 0, none⟩))) Bd := by
    have hkc : Keep w7 wc Bd := by rw [hq]; exact ((Keep.refl w7 Bd).alloc _).drewN q
    exact hkc.setRow (by omega) ⟨c', 37, _, .inl rfl, hc'⟩ _ _
  have hk27 := hk2b.trans hbr.keep
  have e1 := copy_cols _ _ hbl.copy
  have e2 := copy_cols _ _ hbr.copy
  have hpc : (pieceOf p (.slice cx p.n cc) (.slice sx p.n sc)).cols = p.cols := rfl
  have hset' := hset (.pointer (some ⟨w7.heap.size, 0, none⟩))
  have el : (Ls ++ ptrs Rl ++ [Value.pointer none] ++ ptrs Rr).set n1 (.pointer (some ⟨w7.heap.size, 0, none⟩)) = Ls ++ ptrs (.node w7.heap.size 0 (pieceOf p (.slice cx p.n cc) (.slice sx p.n sc)) Rl Rr) := by
    rw [ptrs_node, List.append_assoc (Ls ++ ptrs Rl), List.singleton_append, hn1, set_mid]
    simp
  have es : Ss ++ snaps Rl ++ [(p.pr, p.bl, Value.slice sx p.n sc)] ++ snaps Rr = Ss ++ snaps (.node w7.heap.size 0 (pieceOf p (.slice cx p.n cc) (.slice sx p.n sc)) Rl Rr) := by
    rw [snaps_node]
    simp [pieceOf]
  rw [el] at hset'
  have hs8 := own_set hst8.s hc' (by decide) n1 (.pointer (some ⟨w7.heap.size, 0, none⟩))
  rw [es] at hs8
  have hsize8 : (wc.setCell ⟨og, n1, none⟩ (.pointer (some ⟨w7.heap.size, 0, none⟩))).heap.size = w7.heap.size + 1 := by rw [← hsz7]; simp [World.setCell]
  have s1 := hkb.size
  have s2 := hk2b.size
  have s3 := hbr.keep.size
  refine ⟨⟨?_, hset', hs8⟩, ⟨?_, ?_, ?_, ?_, ?_⟩⟩
  · rw [heap_setCell_other _ _ _ _ (by simp only; omega)]; exact hst8.c
  · refine ⟨rfl, ?_, ?_, ?_, ?_, ?_⟩
    · rw [heap_setCell_other _ _ _ _ (by simp only; exact fun e => hogne e.symm), hpiece, hv1, hv2, e1, e2]
      rfl
    · exact hk78.cells hst7.c (.inl rfl) (hka.cells hcp.st.c (.inl rfl) hcp.cs)
    · exact hk78.cells hst7.c (.inr rfl) (hka.cells hcp.st.c (.inr rfl) hcp.sn)
    · exact (hk27.trans hk78).tin hb2 hbl.tin
    · exact hk78.tin hst7.c hbr.tin
  · exact ⟨rfl, rfl, rfl, rfl, hbl.copy, hbr.copy⟩
  · intro x hx
    rw [hsize8]
    rcases mem_blocks_node.1 hx with hx | hx | hx
    · have := hbl.new x hx; omega
    · omega
    · have := hbr.new x hx; omega
  · rw [blocks_node]
    refine List.nodup_append.2 ⟨hbl.nodup, List.nodup_cons.2 ⟨?_, hbr.nodup⟩, ?_⟩
    · intro hx; have := hbr.new _ hx; omega
    · intro x hx y hy e
      subst e
      have h1 := hbl.new x hx
      rcases List.mem_cons.1 hy with hy | hy
      · omega
      · have := hbr.new x hy; omega
  · exact (hkb.trans hbr.keep).trans hk78

set_option maxRecDepth 100000 in
set_option maxHeartbeats 4000000 in
theorem build_node (Bd b o : Nat) (p : PayT) (l r : BT PayT) (ihl : BuildSaid Bd l) (ihr : BuildSaid Bd r) : BuildSaid Bd (.node b o p l r) := by
  intro nd ov sv Ls Ss w hst hT hF h0 h1 h2 h3 h4
  obtain ⟨u1, hu1⟩ := ptrP l
  obtain ⟨u2, hu2⟩ := ptrP r
  have hbB : b < Bd := hT.1
  have hne : b ≠ Bd := by omega
  have hne' : Bd ≠ b := by omega
  have na := node_at hT hu1 hu2
  have t0 := na.c0
  have z0 := hst.at.c0
  have z1 := hst.at.c1
  have f0 := hst.at.fr 0
  simp only [nodesP] at h1 h2 h3
  simp only [colsP] at h4
  have hnl := fits_nonneg _ hF.2.2.1
  have hnr := fits_nonneg _ hF.2.2.2
  have hst1 := hst.nodes (nd + 1)
  have hk1 := (Keep.refl w Bd).setBd 0 (.int .i64 (nd + 1))
  have kl := ihl (nd + 1) ov sv Ls Ss _ hst1 (hT.2.2.2.2.2.2.2.2.2.1.below (hk1.below (by have := hst.lt; omega))) hF.2.2.1 (by omega) (by omega) (by omega) (by omega) (by have := hF.1; omega)
  rw [hu1] at kl
  have KL := hide kl
  have HT := hide hT
  have HF := hide hF
  have HK1 := hide hk1
  have HST := hide hst
  have HU1 := hide hu1
  have HU2 := hide hu2
  have IHR := hide ihr
  have hB : Bd ≤ w.heap.size := by have := hst.lt; omega
  rw [show (BT.node b o p l r).ptr = .pointer (some ⟨b, o, none⟩) from rfl]
  clear ihl ihr hst hT hF kl hk1 hst1 na hu1 hu2
  go_enter Try.func14, Try.ntmps14
  go_wp2_with fail
  refine KL.out.mono ?_
  rintro e w2 ⟨Rl, ov2, sv2, rfl, hst2, hbl⟩
  obtain ⟨v1, hv1⟩ := ptr_form Rl
  rw [hv1]
  have hk2 := HK1.out.trans hbl.keep
  have hT2 := HT.out.below (hk2.below hB)
  have na := node_at hT2 HU1.out HU2.out
  obtain ⟨n1, hn1⟩ : ∃ n1, n1 = (Ls ++ ptrs Rl).length := ⟨_, rfl⟩
  obtain ⟨oa, oc, hov⟩ := own_shape hst2.o
  rw [← hn1] at hov
  subst hov
  have hll : (Ls ++ ptrs Rl).length ≤ 20000 := by
    have e := copy_nodes _ _ hbl.copy
    have := ptrs_length Rl
    simp only [List.length_append]; omega
  obtain ⟨oa3, oc3, w3, hr3, hst3, hk3, hat3⟩ := app_order w2 Bd _ _ _ _ _ hst2 hll
  rw [← hn1] at hr3 hst3 hk3 hll
  have HN1 := hide hn1
  clear hn1
  have z0' := hst2.at.c0
  have z1' := hst2.at.c1
  have z2' := hst2.at.c2
  have z2'' := hat3.c2
  have f2'' := hat3.fr 2
  have t3 := na.c3
  have t4 := na.c4
  have HR3 := hide hr3
  have HST3 := hide hst3
  have HK3 := hide (hk2.trans hk3)
  have HBL := hide hbl
  have HB2 := hide hst2.c
  have HV1 := hide hv1
  have HK23 := hide hk3
  clear hbl hst2 hk2 hT2 na hr3 hst3 hk3 hat3 hv1 hll KL z0 z1 f0 t0
  go_upto_region 12 with (at_builtin; refine wpList_app_run rfl (.tmp 58) (.tmp 59) 33 33 rfl _ _ _ _ rfl rfl HR3.out ?_)
  have na3 := node_at (HT.out.below (HK3.out.below hB)) HU1.out HU2.out
  have hcel := (HT.out.below (HK3.out.below hB)).2.2.2.2.2.2.2.2.1
  have hnil := HT.out.2.2.2.2.2.2.1
  have hn17 := HF.out.2.1
  have hBW := HST3.out.lt
  generalize w3.setCell ⟨Bd, 2, none⟩ (.slice oa3 (n1 + 1) oc3) = W3 at *
  have t3 := na3.c3
  have t4 := na3.c4
  have HCEL := hide hcel
  have HNIL := hide hnil
  have NA3 := hide na3
  clear z0' z1' z2' z2'' f2'' na3 hcel hnil HR3
  have hnn : ∀ w, (binOp .neq 80 (.slice p.a p.n p.cap) (.slice none 0 0)).run Try.prog w = .ok (.bool (!p.a.isNone)) w := fun w => run_neq_slice_nil_any (P := Try.prog) w 80 85 p.a p.n p.cap 0 0 Try.underlying80
  go_upto_if 71 with fail
  go_cut [7, 8, 9, 10] (fun s7 s8 s9 s10 wx => s7 = .int .i64 p.cols ∧ (∃ sx sc, s8 = .slice sx p.n sc) ∧ (∃ cx cc, s9 = .slice cx p.n cc) ∧ Copied W3 wx Bd p (nd + 1 + nodesP l) (.slice oa3 (n1 + 1) oc3) sv2 (Ls ++ ptrs Rl ++ [.pointer none]) (Ss ++ snaps Rl) s8 s9)
  case first =>
    clear hnn
    have hcl : p.cols = if p.a.isNone then p.bl else (p.n : Int) := rfl
    have HCL := hide hcl
    clear hcl HT HF HK1 HST HU1 HU2 IHR HK3 HBL HV1 HN1
    cases ha : p.a with
    | none =>
      have hn0 := HNIL.out ha
      rw [ha] at HCL t3
      have HN0 := hide hn0
      have HA := hide ha
      clear ha hn0
      go_wp2_with fail
      go_meet
      refine ⟨by rw [HCL.out]; rfl, ⟨none, 0, by rw [HN0.out]⟩, ⟨none, 0, by rw [HN0.out]⟩, ?_, ?_, HST3.out, Keep.refl _ _⟩
      · exact .inl ⟨by rw [HA.out]; rfl, HN0.out, rfl⟩
      · exact .inl ⟨by rw [HA.out]; rfl, HN0.out, rfl⟩
    | some x =>
      rw [ha] at HCL t3
      have HA := hide ha
      clear ha t4
      have hm1 := make80 p.n hn17
      have hm2 := make83 p.n hn17
      have HC2 := hide (cells2_start (p := p) HST3.out)
      have hbW : b < W3.heap.size := by omega
      go_wp2_with fail
      clear hm1 hm2
      go_loopw [10] (fun i wr => ∃ j : Nat, j ≤ p.n ∧ i = .int .i64 j ∧ Cells2 W3 wr Bd W3.heap.size p (nd + 1 + nodesP l) (.slice oa3 (n1 + 1) oc3) sv2 (Ls ++ ptrs Rl ++ [.pointer none]) (Ss ++ snaps Rl) j j) (fun i _ => p.n - (intOf i).toNat)
      case atStart => exact ⟨0, Nat.zero_le _, rfl, HC2.out⟩
      case round =>
        clear HC2
        obtain ⟨j, hj, rfl, hc2⟩ := hrel
        have hkb := hc2.keep.below (by omega)
        have d3 : wr.cell? ⟨b, o + 3, none⟩ = some (.slice (some x) p.n p.cap) := by rw [World.cell?_of_block (w := W3) (hkb b hbB)]; exact t3
        by_cases hlt : j < p.n
        · obtain ⟨cb, co, hx, hcb, hco⟩ := HCEL.out (by omega)
          rw [HA.out] at hx
          injection hx with hx
          subst hx
          have d5 : wr.cell? ⟨cb, co + j * 2, none⟩ = some (.int .i32 (p.code j)) := by rw [World.cell?_of_block (w := W3) (hkb cb hcb)]; exact (hco j hlt).1
          have d6 : wr.cell? ⟨cb, co + j * 2 + 1, none⟩ = some (.int .u32 (p.sty j)) := by rw [World.cell?_of_block (w := W3) (hkb cb hcb)]; exact (hco j hlt).2
          have e0 := hc2.sn.c0 hlt
          have e1 := hc2.sn.c1 hlt
          have ef := fun i => hc2.sn.fr i
          have hcX : cb ≠ W3.heap.size := by omega
          have hbX : b ≠ W3.heap.size := by omega
          have HC3 := hide (hc2.putS hlt (Nat.le_refl _) hBW)
          have HCB := hide hcb
          have HCO := hide hco
          clear hc2 hkb hcb hco
          go_upto_region 23 with fail
          clear d3 d5 d6 e0 e1 ef
          generalize (wr.setCell ⟨W3.heap.size, j * 2, none⟩ (.int .i32 (p.code j))).setCell ⟨W3.heap.size, j * 2 + 1, none⟩ (.int .u32 (p.sty j)) = W4 at *
          have hkb := HC3.out.keep.below (by omega)
          have d3 : W4.cell? ⟨b, o + 3, none⟩ = some (.slice (some ⟨cb, co, none⟩) p.n p.cap) := by rw [World.cell?_of_block (w := W3) (hkb b hbB)]; exact t3
          have d5 : W4.cell? ⟨cb, co + j * 2, none⟩ = some (.int .i32 (p.code j)) := by rw [World.cell?_of_block (w := W3) (hkb cb HCB.out)]; exact (HCO.out j hlt).1
          have d6 : W4.cell? ⟨cb, co + j * 2 + 1, none⟩ = some (.int .u32 (p.sty j)) := by rw [World.cell?_of_block (w := W3) (hkb cb HCB.out)]; exact (HCO.out j hlt).2
          have e0 := HC3.out.cs.c0 hlt
          have e1 := HC3.out.cs.c1 hlt
          have ef := fun i => HC3.out.cs.fr i
          have hW4 : W3.heap.size + 1 < W4.heap.size := HC3.out.cs.lt
          have hcbW : cb < W4.heap.size := by have := HCB.out; omega
          have hbW4 : b < W4.heap.size := by omega
          have hlt' : (j : Int) < (p.n : Int) := by omega
          have hj0 : (0 : Int) ≤ (j : Int) := by omega
          have HC4 := hide (((HC3.out.putC hlt (Nat.le_refl _) hBW).alloc (.cells #[.int .i32 (p.code j), .int .u32 (p.sty j)] 87)).drewN 1)
          clear hkb HC3
          clear HCEL HNIL NA3 HST3 HCL HA
          go_region_with (go_at_call 32; refine (makeCell_any _ _ _).mono ?_; rintro e w' ⟨rfl, rfl⟩)
          all_goals (go_wp2_with fail)
          all_goals
            go_roundw
            case rel => exact ⟨j + 1, by omega, by go_num, HC4.out⟩
            case measure => simp [intOf]; omega
        · have HC3 := hide hc2
          clear hc2 hkb
          go_wp2_with fail
          go_meet
          exact ⟨by rw [HCL.out]; rfl, ⟨_, _, rfl⟩, ⟨_, _, rfl⟩, copied_of HC3.out (by omega) HA.out⟩
  case rest =>
    obtain ⟨rfl, ⟨sx, sc, rfl⟩, ⟨cx, cc, rfl⟩, hcp⟩ := hcut
    clear t3 t4 hnn HCEL HNIL NA3 HST3
    -- the snapshot
    have hk4 := HK3.out.trans hcp.keep
    have na4 := node_at (HT.out.below (hk4.below hB)) HU1.out HU2.out
    obtain ⟨sa, sc', hsv⟩ := own_shape hcp.st.s
    obtain ⟨n2, hn2⟩ : ∃ n2, n2 = (Ss ++ snaps Rl).length := ⟨_, rfl⟩
    rw [← hn2] at hsv
    subst hsv
    have hll : (Ss ++ snaps Rl).length ≤ 20000 := by
      have e := copy_nodes _ _ HBL.out.copy
      have := snaps_length Rl
      simp only [List.length_append]; omega
    obtain ⟨sa5, sc5, w5, hr5, hst5, hk5, hat5⟩ := app_snap wc.drew Bd _ _ _ _ _ (hcp.st.drewN 1) hll p.pr p.bl sx p.n sc
    rw [← hn2] at hr5 hst5 hk5
    have hr5' : ∀ ty, (Builtin.append_ #[34, 34] ty #[.slice sa n2 sc', .slice (some ⟨wc.heap.size, 0, none⟩) 1 1]).run Try.prog ((wc.alloc (.cells #[.int .u32 p.pr, .int .i64 p.bl, .slice sx p.n sc] 90)).drew) = .ok (.slice sa5 (n2 + 1) sc5) w5 := hr5
    have hk5' : Keep wc (w5.setCell ⟨Bd, 3, none⟩ (.slice sa5 (n2 + 1) sc5)) Bd := ((Keep.refl wc Bd).drewN 1).trans hk5
    have z3 := hcp.st.at.c3
    have z3f := hcp.st.at.fr 3
    have y3 := hat5.c3
    have y3f := hat5.fr 3
    have t2 := na4.c2
    have t4 := na4.c4
    have hBc := hcp.st.lt
    have hbc : b < wc.heap.size := by omega
    have HCP := hide hcp
    have HR5 := hide hr5'
    have HST5 := hide hst5
    have HK5 := hide hk5'
    have HK4 := hide hk4
    have HN2 := hide hn2
    clear hcp hr5 hr5' hst5 hk5 hk5' hk4 hn2 na4 hll hat5
    go_upto_region 24 with fail
    go_cut [] (fun wx => BSt wx Bd (nd + 1 + nodesP l) (.slice oa3 (n1 + 1) oc3) (.slice sa5 (n2 + 1) sc5) (Ls ++ ptrs Rl ++ [.pointer none]) (Ss ++ snaps Rl ++ [(p.pr, p.bl, .slice sx p.n sc)]) ∧ Keep wc wx Bd)
    case first =>
      clear HT HF HK1 HST HU1 HU2 IHR HK3 HBL HV1 HN1 HCP HK4 HN2
      go_region_law (refine step_app_run rfl (.tmp 132) (.tmp 143) 34 34 rfl _ _ _ _ (by simp [Act.eval]) (by simp [Act.eval]) HR5.out ?_)
      all_goals (go_wp2_with fail; go_meet; exact ⟨HST5.out, HK5.out⟩)
    case rest =>
      obtain ⟨hst6, hk6⟩ := hcut
      clear z3 z3f y3 y3f t2 t4 HR5 HST5 HK5 hBc hbc
      have hn6 := copy_nodes _ _ HBL.out.copy
      have hk46 := HK4.out.trans hk6
      have hT6 := HT.out.below (hk46.below hB)
      have na6 := node_at hT6 HU1.out HU2.out
      have t1 := na6.c1
      have kr := IHR.out _ _ _ _ _ wc hst6 hT6.2.2.2.2.2.2.2.2.2.2 HF.out.2.2.2 (by omega) (by omega) (by simp only [List.length_append, List.length_cons, List.length_nil, ptrs_length]; omega) (by simp only [List.length_append, List.length_cons, List.length_nil, snaps_length]; omega) (by have := HF.out.1; omega)
      rw [HU2.out] at kr
      have KR := hide kr
      have HST6 := hide hst6
      have HK6 := hide hk6
      have HK46 := hide hk46
      clear kr hst6 hk6 hk46 hT6 na6 hn6
      go_wp2_with fail
      refine KR.out.mono ?_
      rintro e w7 ⟨Rr, ov7, sv7, rfl, hst7, hbr⟩
      obtain ⟨v2, hv2⟩ := ptr_form Rr
      rw [hv2]
      have hk27 := ((HK23.out.trans HCP.out.keep).trans HK6.out).trans hbr.keep
      have hTl := hk27.tin HB2.out HBL.out.tin
      have hs1 := size_of hTl HV1.out
      have hs2 := size_of hbr.tin hv2
      have q1 := copy_cols _ _ HBL.out.copy
      have q2 := copy_cols _ _ hbr.copy
      rw [q1] at hs1
      rw [q2] at hs2
      have na7 := node_at (HT.out.below ((HK46.out.trans hbr.keep).below hB)) HU1.out HU2.out
      have t2 := na7.c2
      have t4 := na7.c4
      have z1 := hst7.at.c1
      have z2 := hst7.at.c2
      have hp0 := HF.out.1
      have k1 := hide (sizeB1_any v1 _ w7 hs1)
      have k2 := hide (sizeB1_any v2 _ w7 hs2)
      have HBR := hide hbr
      have HST7 := hide hst7
      have HV2 := hide hv2
      have HK27 := hide hk27
      clear hbr hst7 hv2 hk27 hTl hs1 hs2 q1 q2 na7 KR t1
      go_wp2_with fail
      refine k1.out.mono ?_
      rintro e w' ⟨rfl, rfl⟩
      go_wp2_with fail
      refine k2.out.mono ?_
      rintro e w' ⟨rfl, rfl⟩
      go_upto_region 29 with fail
      have hBw := HST7.out.lt
      have hbw : b < w'.heap.size := by omega
      go_cut [13] (fun s wx => s = .pointer (some ⟨w'.heap.size, 0, none⟩) ∧ ∃ q, wx = (w'.alloc (.cells #[.pointer v1, .pointer v2, .int .u32 p.pr, .int .i64 (colsP l + p.cols + colsP r), .slice cx p.n cc, .int .i64 p.bl] 103)).drewN q)
      case first =>
        clear HT HF HK1 HST HU1 HU2 IHR HK3 HBL HV1 HN1 HCP HK4 HN2 HB2 HK23 HST6 HK6 HK46 HBR HST7 HV2 HK27 k1 k2
        go_region_with (go_at_call 34; refine (newPiece_any _ _ _ _ _ _ _ _ _).mono ?_; rintro e w' ⟨rfl, rfl⟩)
        all_goals (go_wp2_with fail; go_meet; exact ⟨rfl, 1, rfl⟩)
      case rest =>
        obtain ⟨rfl, q, hq⟩ := hcut
        have hst8 : BSt wc Bd (nd + 1 + nodesP l + nodesP r) ov7 sv7 (Ls ++ ptrs Rl ++ [.pointer none] ++ ptrs Rr) (Ss ++ snaps Rl ++ [(p.pr, p.bl, .slice sx p.n sc)] ++ snaps Rr) := by rw [hq]; exact (HST7.out.alloc _).drewN q
        clear t2 t4 z1 z2
        obtain ⟨n7, hn7⟩ : ∃ n7, n7 = (Ls ++ ptrs Rl ++ [Value.pointer none] ++ ptrs Rr).length := ⟨_, rfl⟩
        have hlt7 : n1 < n7 := by rw [hn7, HN1.out]; simp only [List.length_append, List.length_cons, List.length_nil]; omega
        have hn7b : n7 ≤ 20000 := by
          have e1 := copy_nodes _ _ HBL.out.copy
          have e2 := copy_nodes _ _ HBR.out.copy
          rw [hn7]; simp only [List.length_append, List.length_cons, List.length_nil, ptrs_length]; omega
        obtain ⟨og, oc7, hov, ⟨uold, hcell⟩, hfro, hrow⟩ := row_at hst8.o hn7 hlt7
        subst hov
        have z2 := hst8.at.c2
        have HQ := hide hq
        have HST8 := hide hst8
        have HN7 := hide hn7
        have HROW := hide hrow
        clear hq hst8 hn7 hrow
        go_wp2_with fail
        go_ret
        have hfin := build_fin (o := o) (w := w) (ov7 := .slice (some ⟨og, 0, none⟩) n7 oc7) hbB (by simp [World.setCell]) HBL.out ((HK23.out.trans HCP.out.keep).trans HK6.out) HB2.out HBR.out HK46.out HCP.out (HK6.out.trans HBR.out.keep) HST7.out HST8.out HN1.out HQ.out HROW.out.1 HROW.out.2.1 HROW.out.2.2 HV1.out HV2.out
        have end' : nd + ↑(nodesP (.node b o p l r)) = nd + 1 + ↑(nodesP l) + ↑(nodesP r) := by simp only [nodesP]; omega
        rw [end']
        exact ⟨.node w'.heap.size 0 (pieceOf p (.slice cx p.n cc) (.slice sx p.n sc)) Rl Rr, _, _, rfl, hfin⟩

theorem build_any (Bd : Nat) : ∀ T : BT PayT, BuildSaid Bd T := by
  intro T
  induction T with
  | nil => exact build_nil Bd
  | node b o p l r ihl ihr => exact build_node Bd b o p l r ihl ihr

end Go.Proofs.Qxb6601196a
