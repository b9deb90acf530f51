import Derived.Test.Qxb6601196aPiece
namespace Go.Proofs.Qxb6601196a
open Go.ChangeShapes Go.WideShapes Go.ChangeAt Go.RowKit Go.Deep

theorem ptr_form : ∀ T : BT PI, ∃ u, T.ptr = .pointer u
  | .nil => ⟨none, rfl⟩
  | .node b o _ _ _ => ⟨some ⟨b, o, none⟩, rfl⟩

/-- the six cells of a piece -/
structure Six (w : World) (b : Nat) (l r : Value) (a : PI) (s : Int) : Prop where
  c0 : w.cell? ⟨b, 0, none⟩ = some l
  c1 : w.cell? ⟨b, 1, none⟩ = some r
  c2 : w.cell? ⟨b, 2, none⟩ = some (.int .u32 a.pr)
  c3 : w.cell? ⟨b, 3, none⟩ = some (.int .i64 s)
  c4 : w.cell? ⟨b, 4, none⟩ = some a.cs
  c5 : w.cell? ⟨b, 5, none⟩ = some (.int .i64 a.bl)
  fr : ∀ j, w.frozen? ⟨b, j, none⟩ = false
theorem six_of {w : World} {b : Nat} {l r : Value} {a : PI} {s : Int} (h : w.heap[b]? = some (.cells (pieceCells l r a s) 103 (0, 0))) : Six w b l r a s where
  c0 := by rw [cell_of_row w b 0 _ _ _ h]; rfl
  c1 := by rw [cell_of_row w b 1 _ _ _ h]; rfl
  c2 := by rw [cell_of_row w b 2 _ _ _ h]; rfl
  c3 := by rw [cell_of_row w b 3 _ _ _ h]; rfl
  c4 := by rw [cell_of_row w b 4 _ _ _ h]; rfl
  c5 := by rw [cell_of_row w b 5 _ _ _ h]; rfl
  fr := fun j => frozen_of_row w b j _ _ h

theorem tin_like {w w' : World} (h : w'.heap = w.heap) : ∀ {T : BT PI}, TIn w T → TIn w' T := fun {T} ht =>
  TIn.kept (fun k c t fr _ _ => by rw [h]) ht (fun k _ => by rw [h])

theorem size_of {w : World} {T : BT PI} {u : Option Addr} (h : TIn w T) (hu : T.ptr = .pointer u) : SizeIs w u (colsT T) := by
  cases T with
  | nil => simp only [BT.ptr] at hu; injection hu with e; exact .inl ⟨e.symm, rfl⟩
  | node b o a l r =>
    simp only [BT.ptr] at hu
    injection hu with e
    obtain ⟨rfl, h1, _⟩ := h
    exact .inr ⟨b, e.symm, (six_of h1).c3⟩
theorem sizeIs_like {w w' : World} {u : Option Addr} {s : Int} (h : SizeIs w u s) (hh : w'.heap = w.heap) : SizeIs w' u s := by
  rcases h with h | ⟨b, h1, h2⟩
  · exact .inl h
  · exact .inr ⟨b, h1, by simpa [World.cell?, hh] using h2⟩

theorem cs_form {w : World} {ty : TypeId} {v : Value} {nl : Bool} {n : Nat} {code sty : Nat → Int} (h : CellsAt w ty v nl n code sty) : ∃ x c, v = .slice x n c ∧ x.isNone = nl := by
  rcases h with ⟨h1, h2, h3⟩ | ⟨h1, g, h2, _⟩
  · subst h2; exact ⟨none, 0, h3, by rw [h1]; rfl⟩
  · exact ⟨_, _, h2, by rw [h1]; rfl⟩

/-- resize, of a piece whose pointers and subtrees stand -/
theorem resize_tree (b : Nat) (l r : BT PI) (a : PI) (s : Int) (w : World) (h : w.heap[b]? = some (.cells (pieceCells l.ptr r.ptr a s) 103 (0, 0))) (hc : CellsAt w 87 a.cs a.nl a.n a.code a.sty) (hl : TIn w l) (hr : TIn w r)
    (b1 : 0 ≤ colsT l) (b2 : 0 ≤ colsT r) (b3 : 0 ≤ a.cols) (b4 : colsT l + a.cols + colsT r ≤ 1073741824) :
    Calls Try.prog 42 #[.pointer (some ⟨b, 0, none⟩)] w fun e w' => e = .returned (.tuple #[]) ∧ Like w' (w.setCell ⟨b, 3, none⟩ (.int .i64 (colsT l + a.cols + colsT r))) := by
  obtain ⟨u1, hu1⟩ := ptr_form l
  obtain ⟨u2, hu2⟩ := ptr_form r
  have h6 := six_of h
  obtain ⟨x, c, hx, hn⟩ := cs_form hc
  have e : colsV x a.n a.bl = a.cols := by unfold colsV PI.cols; rw [hn]
  refine resize_any b u1 u2 (colsT l) (colsT r) s a.cols w (by rw [h6.c0, hu1]) (by rw [h6.c1, hu2]) h6.c3 (h6.fr 3) ?_ ?_ ?_ (by omega) (by omega) (by omega)
  · intro w' hw
    exact sizeOf_any u1 _ w' (sizeIs_like (size_of hl hu1) hw.1)
  · intro w' hw
    exact sizeOf_any u2 _ w' (sizeIs_like (size_of hr hu2) hw.1)
  · intro w' hw
    have h6' := six_of (w := w') (by rw [hw.1]; exact h)
    rw [← e]
    exact columns_any b x a.n c a.bl w' (by rw [h6'.c4, hx]) h6'.c5

theorem nodup_parts {l m : List Nat} (h : (l ++ m).Nodup) : l.Nodup ∧ m.Nodup ∧ ∀ x, x ∈ l → x ∉ m := by
  obtain ⟨h1, h2, h3⟩ := List.nodup_append.1 h
  exact ⟨h1, h2, fun x hx hy => h3 x hx x hy rfl⟩

theorem pairs_set {w : World} {b : Nat} {arr : Array Value} (hb : w.heap[b]? = some (.cells arr 103 (0, 0))) (i : Nat) (v : Value) : PairsKept w (w.setCell ⟨b, i, none⟩ v) := by
  intro k c t fr ht hk
  apply heap_setCell_other
  intro e
  subst e
  rw [hb] at hk
  injection hk with hk
  injection hk with _ e _
  rcases ht with rfl | rfl <;> exact absurd e (by decide)
theorem tin_set {w : World} {b : Nat} {arr : Array Value} (hb : w.heap[b]? = some (.cells arr 103 (0, 0))) (i : Nat) (v : Value) {T : BT PI} (h : TIn w T) (hn : b ∉ blocks T) : TIn (w.setCell ⟨b, i, none⟩ v) T :=
  h.kept (pairs_set hb i v) (fun k hk => heap_setCell_other _ _ _ _ (by intro e; subst e; exact hn hk))

/-- a piece with its trees, the size not yet right -/
structure Stale (w : World) (b : Nat) (l r : BT PI) (a : PI) (s : Int) : Prop where
  piece : w.heap[b]? = some (.cells (pieceCells l.ptr r.ptr a s) 103 (0, 0))
  cs : CellsAt w 87 a.cs a.nl a.n a.code a.sty
  sn : CellsAt w 85 a.sn a.nl a.n a.code a.sty
  left : TIn w l
  right : TIn w r
  bl : b ∉ blocks l
  br : b ∉ blocks r
theorem Stale.done {w : World} {b : Nat} {l r : BT PI} {a : PI} {s : Int} (h : Stale w b l r a s) {w' : World} (hw : Like w' (w.setCell ⟨b, 3, none⟩ (.int .i64 (colsT l + a.cols + colsT r)))) : TIn w' (.node b 0 a l r) := by
  apply tin_like hw.1
  refine ⟨rfl, ?_, h.cs.kept (pairs_set h.piece _ _) (.inl rfl), h.sn.kept (pairs_set h.piece _ _) (.inr rfl), tin_set h.piece _ _ h.left h.bl, tin_set h.piece _ _ h.right h.br⟩
  rw [heap_setCell_same w b 3 _ _ _ h.piece]
  rfl

theorem mem_blocks_node {b o : Nat} {a : PI} {l r : BT PI} {k : Nat} : k ∈ blocks (.node b o a l r) ↔ k ∈ blocks l ∨ k = b ∨ k ∈ blocks r := by
  simp only [blocks, inorder, List.map_append, List.map_cons, List.mem_append, List.mem_cons]
theorem blocks_of_inorder {M T1 T2 : BT PI} (h : inorder M = inorder T1 ++ inorder T2) : blocks M = blocks T1 ++ blocks T2 := by
  unfold blocks; rw [h, List.map_append]
theorem blocks_node (b o : Nat) (a : PI) (l r : BT PI) : blocks (.node b o a l r) = blocks l ++ b :: blocks r := by
  simp [blocks, inorder]

/-- 'first.after = merge(first.after, second)': what stands behind the store -/
theorem stale_right {w w1 : World} {b : Nat} {a : PI} {l r T2 M : BT PI} (h : TIn w (.node b 0 a l r)) (hM : TIn w1 M) (hio : inorder M = inorder r ++ inorder T2) (hT2 : TIn w T2) (hs : SameBut w w1 (blocks r ++ blocks T2))
    (hnd : (blocks (.node b 0 a l r) ++ blocks T2).Nodup) : Stale (w1.setCell ⟨b, 1, none⟩ M.ptr) b l M a (colsT l + a.cols + colsT r) := by
  obtain ⟨_, h1, h2, h3, h4, h5⟩ := h
  rw [blocks_node] at hnd
  obtain ⟨n1, n2, n3⟩ := nodup_parts hnd
  obtain ⟨m1, m2, m3⟩ := nodup_parts n1
  have hbr : b ∉ blocks r := fun hh => (List.nodup_cons.1 m2).1 hh
  have hb2 : b ∉ blocks T2 := n3 b (by simp)
  have hbl : b ∉ blocks l := fun hh => m3 b hh (by simp)
  have hlL : ∀ k, k ∈ blocks l → k ∉ blocks r ++ blocks T2 := by
    intro k hk hh
    rcases List.mem_append.1 hh with hh | hh
    · exact m3 k hk (by simp [hh])
    · exact n3 k (by simp [hk]) hh
  have hbL : b ∉ blocks r ++ blocks T2 := by intro hh; rcases List.mem_append.1 hh with hh | hh; exact hbr hh; exact hb2 hh
  have hpk : PairsKept w w1 := hs.pairs (fun k hk => by
    rcases List.mem_append.1 hk with hk | hk
    · exact h5.tag k hk
    · exact hT2.tag k hk)
  have p1 : w1.heap[b]? = some (.cells (pieceCells l.ptr r.ptr a (colsT l + a.cols + colsT r)) 103 (0, 0)) := by rw [hs.block b hbL]; exact h1
  have hbM : b ∉ blocks M := by rw [blocks_of_inorder hio]; exact hbL
  refine ⟨?_, (h2.kept hpk (.inl rfl)).kept (pairs_set p1 _ _) (.inl rfl), (h3.kept hpk (.inr rfl)).kept (pairs_set p1 _ _) (.inr rfl), tin_set p1 _ _ (h4.kept hpk fun k hk => hs.block k (hlL k hk)) hbl, tin_set p1 _ _ hM hbM, hbl, hbM⟩
  rw [heap_setCell_same w1 b 1 _ _ _ p1]
  rfl

/-- 'second.before = merge(first, second.before)' -/
theorem stale_left {w w1 : World} {b : Nat} {a : PI} {l r T1 M : BT PI} (h : TIn w (.node b 0 a l r)) (hM : TIn w1 M) (hio : inorder M = inorder T1 ++ inorder l) (hT1 : TIn w T1) (hs : SameBut w w1 (blocks T1 ++ blocks l))
    (hnd : (blocks T1 ++ blocks (.node b 0 a l r)).Nodup) : Stale (w1.setCell ⟨b, 0, none⟩ M.ptr) b M r a (colsT l + a.cols + colsT r) := by
  obtain ⟨_, h1, h2, h3, h4, h5⟩ := h
  rw [blocks_node] at hnd
  obtain ⟨n1, n2, n3⟩ := nodup_parts hnd
  obtain ⟨m1, m2, m3⟩ := nodup_parts n2
  have hbr : b ∉ blocks r := fun hh => (List.nodup_cons.1 m2).1 hh
  have hb1 : b ∉ blocks T1 := fun hh => n3 b hh (by simp)
  have hbl : b ∉ blocks l := fun hh => m3 b hh (by simp)
  have hrL : ∀ k, k ∈ blocks r → k ∉ blocks T1 ++ blocks l := by
    intro k hk hh
    rcases List.mem_append.1 hh with hh | hh
    · exact n3 k hh (by simp [hk])
    · exact m3 k hh (by simp [hk])
  have hbL : b ∉ blocks T1 ++ blocks l := by intro hh; rcases List.mem_append.1 hh with hh | hh; exact hb1 hh; exact hbl hh
  have hpk : PairsKept w w1 := hs.pairs (fun k hk => by
    rcases List.mem_append.1 hk with hk | hk
    · exact hT1.tag k hk
    · exact h4.tag k hk)
  have p1 : w1.heap[b]? = some (.cells (pieceCells l.ptr r.ptr a (colsT l + a.cols + colsT r)) 103 (0, 0)) := by rw [hs.block b hbL]; exact h1
  have hbM : b ∉ blocks M := by rw [blocks_of_inorder hio]; exact hbL
  refine ⟨?_, (h2.kept hpk (.inl rfl)).kept (pairs_set p1 _ _) (.inl rfl), (h3.kept hpk (.inr rfl)).kept (pairs_set p1 _ _) (.inr rfl), tin_set p1 _ _ hM hbM, tin_set p1 _ _ (h5.kept hpk fun k hk => hs.block k (hrL k hk)) hbr, hbM, hbr⟩
  rw [heap_setCell_same w1 b 0 _ _ _ p1]
  rfl

/-- what merge leaves -/
structure Merged (w w' : World) (T1 T2 M : BT PI) : Prop where
  tin : TIn w' M
  io : inorder M = inorder T1 ++ inorder T2
  heap : heapT T1 → heapT T2 → heapT M
  root : ∀ p, rootLe T1 p → rootLe T2 p → rootLe M p
  same : SameBut w w' (blocks T1 ++ blocks T2)

theorem nodesT_node (b o : Nat) (a : PI) (l r : BT PI) : nodesT (.node b o a l r) = nodesT l + 1 + nodesT r := rfl
theorem colsT_node (b o : Nat) (a : PI) (l r : BT PI) : colsT (.node b o a l r) = colsT l + a.cols + colsT r := rfl
theorem merged_cols {w w' : World} {T1 T2 M : BT PI} (h : Merged w w' T1 T2 M) : colsT M = colsT T1 + colsT T2 := by
  rw [colsT_sum, h.io, sumC_append, ← colsT_sum, ← colsT_sum]

theorem ptr_nil : (BT.nil : BT PI).ptr = .pointer none := rfl
theorem ptr_node (b o : Nat) (a : PI) (l r : BT PI) : (BT.node b o a l r).ptr = .pointer (some ⟨b, o, none⟩) := rfl

theorem merge_nil_left (T2 : BT PI) (w : World) (h2 : TIn w T2) : Calls Try.prog 36 #[.pointer none, T2.ptr] w fun e w' => ∃ M, e = .returned M.ptr ∧ Merged w w' .nil T2 M := by
  obtain ⟨u, hu⟩ := ptr_form T2
  have HU := hide hu
  have H2 := hide h2
  rw [hu]
  clear hu h2
  go_enter Try.func36, Try.ntmps36
  go_wp2_with fail
  go_ret
  exact ⟨T2, by rw [HU.out]; rfl, H2.out, rfl, fun _ h => h, fun _ _ h => h, SameBut.refl _ _⟩
theorem merge_nil_right (b1 : Nat) (a1 : PI) (l1 r1 : BT PI) (w : World) (h1 : TIn w (.node b1 0 a1 l1 r1)) : Calls Try.prog 36 #[.pointer (some ⟨b1, 0, none⟩), .pointer none] w fun e w' => ∃ M, e = .returned M.ptr ∧ Merged w w' (.node b1 0 a1 l1 r1) .nil M := by
  have H1 := hide h1
  clear h1
  go_enter Try.func36, Try.ntmps36
  go_wp2_with fail
  go_ret
  exact ⟨.node b1 0 a1 l1 r1, rfl, H1.out, by simp [inorder], fun h _ => h, fun _ h _ => h, SameBut.refl _ _⟩

theorem piece_right {w w1 : World} {b : Nat} {a : PI} {l r T2 : BT PI} (h : TIn w (.node b 0 a l r)) (hs : SameBut w w1 (blocks r ++ blocks T2)) (hnd : (blocks (.node b 0 a l r) ++ blocks T2).Nodup) :
    Six w1 b l.ptr r.ptr a (colsT l + a.cols + colsT r) := by
  rw [blocks_node] at hnd
  obtain ⟨n1, n2, n3⟩ := nodup_parts hnd
  obtain ⟨m1, m2, m3⟩ := nodup_parts n1
  apply six_of
  rw [hs.block b ?_]
  · exact h.2.1
  · intro hh
    rcases List.mem_append.1 hh with hh | hh
    · exact (List.nodup_cons.1 m2).1 hh
    · exact n3 b (by simp) hh
theorem piece_left {w w1 : World} {b : Nat} {a : PI} {l r T1 : BT PI} (h : TIn w (.node b 0 a l r)) (hs : SameBut w w1 (blocks T1 ++ blocks l)) (hnd : (blocks T1 ++ blocks (.node b 0 a l r)).Nodup) :
    Six w1 b l.ptr r.ptr a (colsT l + a.cols + colsT r) := by
  rw [blocks_node] at hnd
  obtain ⟨n1, n2, n3⟩ := nodup_parts hnd
  obtain ⟨m1, m2, m3⟩ := nodup_parts n2
  apply six_of
  rw [hs.block b ?_]
  · exact h.2.1
  · intro hh
    rcases List.mem_append.1 hh with hh | hh
    · exact n3 b hh (by simp)
    · exact m3 b hh (by simp)

theorem merged_first {w w1 w3 : World} {b1 b2 : Nat} {a1 a2 : PI} {l1 r1 l2 r2 M : BT PI} (hgt : a2.pr < a1.pr) (h1 : TIn w (.node b1 0 a1 l1 r1)) (h2 : TIn w (.node b2 0 a2 l2 r2)) (hnd : (blocks (.node b1 0 a1 l1 r1) ++ blocks (.node b2 0 a2 l2 r2)).Nodup)
    (hM : Merged w w1 r1 (.node b2 0 a2 l2 r2) M) (hw : Like w3 ((w1.setCell ⟨b1, 1, none⟩ M.ptr).setCell ⟨b1, 3, none⟩ (.int .i64 (colsT l1 + a1.cols + colsT M)))) :
    Merged w w3 (.node b1 0 a1 l1 r1) (.node b2 0 a2 l2 r2) (.node b1 0 a1 l1 M) where
  tin := (stale_right h1 hM.tin hM.io h2 hM.same hnd).done hw
  io := by
    show inorder l1 ++ (b1, a1) :: inorder M = (inorder l1 ++ (b1, a1) :: inorder r1) ++ inorder _
    rw [hM.io]; simp
  heap := fun e1 e2 => ⟨e1.1, hM.root _ e1.2.1 (by show a2.pr ≤ a1.pr; omega), e1.2.2.1, hM.heap e1.2.2.2 e2⟩
  root := fun p e1 _ => e1
  same := by
    have hb : b1 ∈ blocks (.node b1 0 a1 l1 r1) ++ blocks (.node b2 0 a2 l2 r2) := List.mem_append_left _ (mem_blocks_node.2 (.inr (.inl rfl)))
    refine SameBut.like ((hM.same.mono ?_).set _ _ hb |>.set _ _ hb) hw
    intro k hk
    rcases List.mem_append.1 hk with hk | hk
    · exact List.mem_append_left _ (mem_blocks_node.2 (.inr (.inr hk)))
    · exact List.mem_append_right _ hk
theorem merged_second {w w1 w3 : World} {b1 b2 : Nat} {a1 a2 : PI} {l1 r1 l2 r2 M : BT PI} (hle : a1.pr ≤ a2.pr) (h1 : TIn w (.node b1 0 a1 l1 r1)) (h2 : TIn w (.node b2 0 a2 l2 r2)) (hnd : (blocks (.node b1 0 a1 l1 r1) ++ blocks (.node b2 0 a2 l2 r2)).Nodup)
    (hM : Merged w w1 (.node b1 0 a1 l1 r1) l2 M) (hw : Like w3 ((w1.setCell ⟨b2, 0, none⟩ M.ptr).setCell ⟨b2, 3, none⟩ (.int .i64 (colsT M + a2.cols + colsT r2)))) :
    Merged w w3 (.node b1 0 a1 l1 r1) (.node b2 0 a2 l2 r2) (.node b2 0 a2 M r2) where
  tin := (stale_left h2 hM.tin hM.io h1 hM.same hnd).done hw
  io := by
    show inorder M ++ (b2, a2) :: inorder r2 = inorder _ ++ (inorder l2 ++ (b2, a2) :: inorder r2)
    rw [hM.io]; simp
  heap := fun e1 e2 => ⟨hM.root _ (by show a1.pr ≤ a2.pr; exact hle) e2.1, e2.2.1, hM.heap e1 e2.2.2.1, e2.2.2.2⟩
  root := fun p _ e2 => e2
  same := by
    have hb : b2 ∈ blocks (.node b1 0 a1 l1 r1) ++ blocks (.node b2 0 a2 l2 r2) := List.mem_append_right _ (mem_blocks_node.2 (.inr (.inl rfl)))
    refine SameBut.like ((hM.same.mono ?_).set _ _ hb |>.set _ _ hb) hw
    intro k hk
    rcases List.mem_append.1 hk with hk | hk
    · exact List.mem_append_left _ hk
    · exact List.mem_append_right _ (mem_blocks_node.2 (.inl hk))

theorem merged_drew {w w1 : World} {nq : Nat} {T1 T2 M : BT PI} (h : Merged (w.drewN nq) w1 T1 T2 M) : Merged w w1 T1 T2 M :=
  ⟨h.tin, h.io, h.heap, h.root, h.same.os, h.same.tape, h.same.output, h.same.size, h.same.block⟩

set_option maxHeartbeats 1000000 in
/-- first.priority > second.priority -/
theorem merge_first (b1 b2 : Nat) (a1 a2 : PI) (l1 r1 l2 r2 : BT PI) (w : World) (hgt : a2.pr < a1.pr) (h1 : TIn w (.node b1 0 a1 l1 r1)) (h2 : TIn w (.node b2 0 a2 l2 r2)) (hnd : (blocks (.node b1 0 a1 l1 r1) ++ blocks (.node b2 0 a2 l2 r2)).Nodup)
    (hp1 : NN (.node b1 0 a1 l1 r1)) (hp2 : NN (.node b2 0 a2 l2 r2)) (hc : colsT (.node b1 0 a1 l1 r1) + colsT (.node b2 0 a2 l2 r2) ≤ 1073741824)
    (ih : ∀ w', w'.heap = w.heap → Calls Try.prog 36 #[r1.ptr, .pointer (some ⟨b2, 0, none⟩)] w' fun e w'' => ∃ M, e = .returned M.ptr ∧ Merged w' w'' r1 (.node b2 0 a2 l2 r2) M) :
    Calls Try.prog 36 #[.pointer (some ⟨b1, 0, none⟩), .pointer (some ⟨b2, 0, none⟩)] w fun e w' => ∃ M, e = .returned M.ptr ∧ Merged w w' (.node b1 0 a1 l1 r1) (.node b2 0 a2 l2 r2) M := by
  obtain ⟨ul, hul⟩ := ptr_form l1
  obtain ⟨ur, hur⟩ := ptr_form r1
  have s1 := six_of h1.2.1
  have s2 := six_of h2.2.1
  have x1 := s1.c1
  have x2 := s1.c2
  have y2 := s2.c2
  rw [hur] at x1
  have IH := hide ih
  rw [hur] at IH
  have H1 := hide h1
  have H2 := hide h2
  have HND := hide hnd
  have HC := hide hc
  have HP1 := hide hp1
  have HP2 := hide hp2
  clear ih h1 h2 hnd hc hp1 hp2 s1 s2 hul hur
  go_enter Try.func36, Try.ntmps36
  go_wp2_with fail
  go_quiet (fail)
  go_wp2_with fail
  refine (IH.out (w.drewN nq) rfl).mono ?_
  rintro e w1 ⟨M, rfl, hM0⟩
  have hM := merged_drew hM0
  have st := stale_right H1.out hM.tin hM.io H2.out hM.same HND.out
  have sx := piece_right H1.out hM.same HND.out
  have hcM := merged_cols hM
  have hc := HC.out
  rw [colsT_node] at hc
  have e1 := colsT_nonneg _ HP1.out.left
  have e2 := colsT_nonneg _ HP1.out.right
  have e3 := HP1.out.self
  have e4 := colsT_nonneg _ HP2.out
  obtain ⟨um, hum⟩ := ptr_form M
  rw [hum] at st ⊢
  have HRS := hide (resize_tree b1 l1 M a1 _ _ st.piece st.cs st.left st.right e1 (by omega) e3 (by omega))
  have z1 := sx.c1
  have z1f := sx.fr 1
  obtain ⟨ur', hur'⟩ := ptr_form r1
  rw [hur'] at z1
  have HM := hide hM
  have HUM := hide hum
  clear hM0 hM st sx hcM hc e1 e2 e3 e4 hum hur' x1
  go_wp2_with fail
  refine HRS.out.mono ?_
  rintro e w3 ⟨rfl, hw3⟩
  have HW3 := hide hw3
  rw [← HUM.out] at HW3
  clear hw3
  go_wp2_with fail
  go_ret
  exact ⟨.node b1 0 a1 l1 M, rfl, merged_first hgt H1.out H2.out HND.out HM.out HW3.out⟩

set_option maxHeartbeats 1000000 in
/-- first.priority <= second.priority -/
theorem merge_second (b1 b2 : Nat) (a1 a2 : PI) (l1 r1 l2 r2 : BT PI) (w : World) (hle : a1.pr ≤ a2.pr) (h1 : TIn w (.node b1 0 a1 l1 r1)) (h2 : TIn w (.node b2 0 a2 l2 r2)) (hnd : (blocks (.node b1 0 a1 l1 r1) ++ blocks (.node b2 0 a2 l2 r2)).Nodup)
    (hp1 : NN (.node b1 0 a1 l1 r1)) (hp2 : NN (.node b2 0 a2 l2 r2)) (hc : colsT (.node b1 0 a1 l1 r1) + colsT (.node b2 0 a2 l2 r2) ≤ 1073741824)
    (ih : ∀ w', w'.heap = w.heap → Calls Try.prog 36 #[.pointer (some ⟨b1, 0, none⟩), l2.ptr] w' fun e w'' => ∃ M, e = .returned M.ptr ∧ Merged w' w'' (.node b1 0 a1 l1 r1) l2 M) :
    Calls Try.prog 36 #[.pointer (some ⟨b1, 0, none⟩), .pointer (some ⟨b2, 0, none⟩)] w fun e w' => ∃ M, e = .returned M.ptr ∧ Merged w w' (.node b1 0 a1 l1 r1) (.node b2 0 a2 l2 r2) M := by
  obtain ⟨ul, hul⟩ := ptr_form r2
  obtain ⟨ur, hur⟩ := ptr_form l2
  have s1 := six_of h1.2.1
  have s2 := six_of h2.2.1
  have x1 := s2.c0
  have x2 := s1.c2
  have y2 := s2.c2
  rw [hur] at x1
  have IH := hide ih
  rw [hur] at IH
  have H1 := hide h1
  have H2 := hide h2
  have HND := hide hnd
  have HC := hide hc
  have HP1 := hide hp1
  have HP2 := hide hp2
  clear ih h1 h2 hnd hc hp1 hp2 s1 s2 hul hur
  go_enter Try.func36, Try.ntmps36
  go_wp2_with fail
  go_quiet (fail)
  go_wp2_with fail
  refine (IH.out (w.drewN nq) rfl).mono ?_
  rintro e w1 ⟨M, rfl, hM0⟩
  have hM := merged_drew hM0
  have st := stale_left H2.out hM.tin hM.io H1.out hM.same HND.out
  have sx := piece_left H2.out hM.same HND.out
  have hcM := merged_cols hM
  have hc := HC.out
  rw [colsT_node b2] at hc
  have e1 := colsT_nonneg _ HP2.out.left
  have e2 := colsT_nonneg _ HP2.out.right
  have e3 := HP2.out.self
  have e4 := colsT_nonneg _ HP1.out
  obtain ⟨um, hum⟩ := ptr_form M
  rw [hum] at st ⊢
  have HRS := hide (resize_tree b2 M r2 a2 _ _ st.piece st.cs st.left st.right (by omega) e2 e3 (by omega))
  have z1 := sx.c0
  have z1f := sx.fr 0
  obtain ⟨ur', hur'⟩ := ptr_form l2
  rw [hur'] at z1
  have HM := hide hM
  have HUM := hide hum
  clear hM0 hM st sx hcM hc e1 e2 e3 e4 hum hur' x1
  go_wp2_with fail
  refine HRS.out.mono ?_
  rintro e w3 ⟨rfl, hw3⟩
  have HW3 := hide hw3
  rw [← HUM.out] at HW3
  clear hw3
  go_wp2_with fail
  go_ret
  exact ⟨.node b2 0 a2 M r2, rfl, merged_second hle H1.out H2.out HND.out HM.out HW3.out⟩

theorem merge_any (n : Nat) : ∀ (T1 T2 : BT PI) (w : World), nodesT T1 + nodesT T2 ≤ n → TIn w T1 → TIn w T2 → (blocks T1 ++ blocks T2).Nodup → NN T1 → NN T2 → colsT T1 + colsT T2 ≤ 1073741824 →
    Calls Try.prog 36 #[T1.ptr, T2.ptr] w fun e w' => ∃ M, e = .returned M.ptr ∧ Merged w w' T1 T2 M := by
  induction n with
  | zero =>
    intro T1 T2 w hn h1 h2 hnd hp1 hp2 hc
    cases T1 with
    | node b o a l r => rw [nodesT_node] at hn; omega
    | nil => exact merge_nil_left T2 w h2
  | succ n ih =>
    intro T1 T2 w hn h1 h2 hnd hp1 hp2 hc
    cases T1 with
    | nil => exact merge_nil_left T2 w h2
    | node b1 o1 a1 l1 r1 =>
      obtain rfl : o1 = 0 := h1.1
      cases T2 with
      | nil => exact merge_nil_right b1 a1 l1 r1 w h1
      | node b2 o2 a2 l2 r2 =>
        obtain rfl : o2 = 0 := h2.1
        rw [nodesT_node b1, nodesT_node b2] at hn
        have hnd' := hnd
        rw [blocks_node b1] at hnd
        rw [blocks_node b2] at hnd
        by_cases hgt : a2.pr < a1.pr
        · refine merge_first b1 b2 a1 a2 l1 r1 l2 r2 w hgt h1 h2 hnd' hp1 hp2 hc ?_
          intro w' hw'
          have e1 := colsT_nonneg _ hp1.left
          have e3 := hp1.self
          refine ih r1 (.node b2 0 a2 l2 r2) w' (by rw [nodesT_node]; omega) (tin_like hw' h1.2.2.2.2.2) (tin_like hw' h2) ?_ hp1.right hp2 (by rw [colsT_node b1] at hc; omega)
          rw [blocks_node b2]
          exact hnd.sublist (List.Sublist.append (List.Sublist.trans (List.sublist_cons_self _ _) (List.sublist_append_right _ _)) (List.Sublist.refl _))
        · refine merge_second b1 b2 a1 a2 l1 r1 l2 r2 w (by omega) h1 h2 hnd' hp1 hp2 hc ?_
          intro w' hw'
          have e1 := colsT_nonneg _ hp2.right
          have e3 := hp2.self
          refine ih (.node b1 0 a1 l1 r1) l2 w' (by rw [nodesT_node]; omega) (tin_like hw' h1) (tin_like hw' h2.2.2.2.2.1) ?_ hp1 hp2.left (by rw [colsT_node b2] at hc; omega)
          rw [blocks_node b1]
          exact hnd.sublist (List.Sublist.append (List.Sublist.refl _) (List.sublist_append_left _ _))

theorem zzmerge_any (T1 T2 : BT PI) (w : World) (h1 : TIn w T1) (h2 : TIn w T2) (hnd : (blocks T1 ++ blocks T2).Nodup) (hp1 : NN T1) (hp2 : NN T2) (hc : colsT T1 + colsT T2 ≤ 1073741824) :
    Calls Try.prog 16 #[T1.ptr, T2.ptr] w fun e w' => ∃ M, e = .returned M.ptr ∧ Merged w w' T1 T2 M := by
  have hx := merge_any _ T1 T2 w (Nat.le_refl _) h1 h2 hnd hp1 hp2 hc
  obtain ⟨u1, hu1⟩ := ptr_form T1
  obtain ⟨u2, hu2⟩ := ptr_form T2
  rw [hu1, hu2] at hx ⊢
  have HX := hide hx
  clear hx h1 h2 hnd hp1 hp2 hc hu1 hu2
  go_enter Try.func16, Try.ntmps16
  go_wp2_with fail
  refine HX.out.mono ?_
  rintro e w' ⟨M, rfl, hM⟩
  obtain ⟨um, hum⟩ := ptr_form M
  have HM := hide hM
  have HUM := hide hum
  rw [hum]
  clear hM hum
  go_wp2_with fail
  go_ret
  exact ⟨M, by rw [HUM.out]; rfl, HM.out⟩

end Go.Proofs.Qxb6601196a
