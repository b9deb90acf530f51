import Derived.Test.Qxb6601196aChk
namespace Go.Proofs.Qxb6601196a
open Go.ChangeShapes Go.WideShapes Go.ChangeAt Go.RowKit Go.Deep

set_option linter.unusedVariables false

/-- what a node of the argument holds -/
structure PayT where
  pr : Int
  bl : Int
  a : Option Addr
  n : Nat
  cap : Nat
  code : Nat → Int
  sty : Nat → Int

def PayT.cols (p : PayT) : Int := if p.a.isNone then p.bl else p.n
def colsP : BT PayT → Int
  | .nil => 0
  | .node _ _ p l r => colsP l + p.cols + colsP r
def nodesP : BT PayT → Nat
  | .nil => 0
  | .node _ _ _ l r => nodesP l + 1 + nodesP r
/-- every node's columns fit, and its cells are not too many -/
def Fits : BT PayT → Prop
  | .nil => True
  | .node _ _ p l r => 0 ≤ p.cols ∧ p.n ≤ 131072 ∧ Fits l ∧ Fits r

/-- the argument's nodes lie in w, below block B -/
def PTIn (w : World) (B : Nat) : BT PayT → Prop
  | .nil => True
  | .node b o p l r => b < B ∧ w.cell? ⟨b, o, none⟩ = some l.ptr ∧ w.cell? ⟨b, o + 1, none⟩ = some r.ptr ∧ w.cell? ⟨b, o + 2, none⟩ = some (.int .u32 p.pr) ∧ w.cell? ⟨b, o + 3, none⟩ = some (.slice p.a p.n p.cap) ∧
      w.cell? ⟨b, o + 4, none⟩ = some (.int .i64 p.bl) ∧ (p.a = none → p.n = 0) ∧ p.n ≤ maxLen ∧
      (0 < p.n → ∃ cb co, p.a = some ⟨cb, co, none⟩ ∧ cb < B ∧ ∀ j, j < p.n → w.cell? ⟨cb, co + j * 2, none⟩ = some (.int .i32 (p.code j)) ∧ w.cell? ⟨cb, co + j * 2 + 1, none⟩ = some (.int .u32 (p.sty j))) ∧
      PTIn w B l ∧ PTIn w B r

theorem ptrP : ∀ T : BT PayT, ∃ u, T.ptr = .pointer u
  | .nil => ⟨none, rfl⟩
  | .node b o _ _ _ => ⟨some ⟨b, o, none⟩, rfl⟩
theorem PTIn.below {w w' : World} {B : Nat} (h : ∀ k, k < B → w'.heap[k]? = w.heap[k]?) : ∀ {T : BT PayT}, PTIn w B T → PTIn w' B T
  | .nil, _ => trivial
  | .node b o p l r, ⟨h0, h1, h2, h3, h4, h5, h6, h6b, h7, h8, h9⟩ => by
    have hc : ∀ i v, w.cell? ⟨b, i, none⟩ = some v → w'.cell? ⟨b, i, none⟩ = some v := fun i v hv => by rw [World.cell?_of_block (w := w) (h b h0)]; exact hv
    refine ⟨h0, hc _ _ h1, hc _ _ h2, hc _ _ h3, hc _ _ h4, hc _ _ h5, h6, h6b, ?_, PTIn.below h h8, PTIn.below h h9⟩
    intro hn
    obtain ⟨cb, co, e, hb, hj⟩ := h7 hn
    exact ⟨cb, co, e, hb, fun j hlt => ⟨by rw [World.cell?_of_block (w := w) (h cb hb)]; exact (hj j hlt).1, by rw [World.cell?_of_block (w := w) (h cb hb)]; exact (hj j hlt).2⟩⟩

/-! ### pieceFitB1.walk -/
def fitCells (nd cl by' : Int) (ok : Bool) : Array Value := #[.int .i64 nd, .int .i64 cl, .int .i64 by', .bool ok]
structure FRun (w wr : World) (F : Nat) (nd cl by' : Int) (ok : Bool) : Prop where
  c : wr.heap[F]? = some (.cells (fitCells nd cl by' ok) 77 (0, 0))
  g : w.grownBy wr (some F)
structure FAt (wr : World) (F : Nat) (nd cl by' : Int) (ok : Bool) : Prop where
  c0 : wr.cell? ⟨F, 0, none⟩ = some (.int .i64 nd)
  c1 : wr.cell? ⟨F, 1, none⟩ = some (.int .i64 cl)
  c2 : wr.cell? ⟨F, 2, none⟩ = some (.int .i64 by')
  c3 : wr.cell? ⟨F, 3, none⟩ = some (.bool ok)
  fr : ∀ j, wr.frozen? ⟨F, j, none⟩ = false
theorem FRun.at {w wr : World} {F : Nat} {nd cl by' : Int} {ok : Bool} (h : FRun w wr F nd cl by' ok) : FAt wr F nd cl by' ok where
  c0 := by rw [cell_of_row wr F 0 _ _ _ h.c]; rfl
  c1 := by rw [cell_of_row wr F 1 _ _ _ h.c]; rfl
  c2 := by rw [cell_of_row wr F 2 _ _ _ h.c]; rfl
  c3 := by rw [cell_of_row wr F 3 _ _ _ h.c]; rfl
  fr := fun j => frozen_of_row wr F j _ _ h.c
theorem FRun.s0 {w wr : World} {F : Nat} {nd cl by' : Int} {ok : Bool} (h : FRun w wr F nd cl by' ok) (x : Int) : FRun w (wr.setCell ⟨F, 0, none⟩ (.int .i64 x)) F x cl by' ok :=
  ⟨by rw [heap_setCell_same wr F 0 _ _ _ h.c]; rfl, grown_set h.g _ _⟩
theorem FRun.s1 {w wr : World} {F : Nat} {nd cl by' : Int} {ok : Bool} (h : FRun w wr F nd cl by' ok) (x : Int) : FRun w (wr.setCell ⟨F, 1, none⟩ (.int .i64 x)) F nd x by' ok :=
  ⟨by rw [heap_setCell_same wr F 1 _ _ _ h.c]; rfl, grown_set h.g _ _⟩
theorem FRun.s2 {w wr : World} {F : Nat} {nd cl by' : Int} {ok : Bool} (h : FRun w wr F nd cl by' ok) (x : Int) : FRun w (wr.setCell ⟨F, 2, none⟩ (.int .i64 x)) F nd cl x ok :=
  ⟨by rw [heap_setCell_same wr F 2 _ _ _ h.c]; rfl, grown_set h.g _ _⟩
theorem FRun.s3 {w wr : World} {F : Nat} {nd cl by' : Int} {ok : Bool} (h : FRun w wr F nd cl by' ok) (x : Bool) : FRun w (wr.setCell ⟨F, 3, none⟩ (.bool x)) F nd cl by' x :=
  ⟨by rw [heap_setCell_same wr F 3 _ _ _ h.c]; rfl, grown_set h.g _ _⟩
theorem FRun.drewN {w wr : World} {F : Nat} {nd cl by' : Int} {ok : Bool} (h : FRun w wr F nd cl by' ok) (q : Nat) : FRun w (wr.drewN q) F nd cl by' ok := ⟨h.c, ⟨h.g.os, h.g.tape, h.g.output, h.g.size, h.g.block⟩⟩

/-- what walk leaves: not ok; or all counted, and all fits -/
def FitDone (w w' : World) (F : Nat) (nd cl : Int) (ok : Bool) (T : BT PayT) : Prop :=
  ∃ nd' cl' b' ok', FRun w w' F nd' cl' b' ok' ∧ (ok' = true → ok = true ∧ nd' = nd + nodesP T ∧ nd' ≤ 16384 ∧ cl' = cl + colsP T ∧ cl' ≤ 1073741824 ∧ 0 ≤ b' ∧ b' ≤ 1048576 ∧ Fits T ∧ 0 ≤ colsP T)
def FitSaid (F : Nat) (T : BT PayT) : Prop :=
  ∀ (nd cl by' : Int) (ok : Bool) (w : World), w.heap[F]? = some (.cells (fitCells nd cl by' ok) 77 (0, 0)) → PTIn w F T → (ok = true → 0 ≤ nd ∧ nd ≤ 16384 ∧ 0 ≤ cl ∧ cl ≤ 1073741824 ∧ 0 ≤ by' ∧ by' ≤ 1048576) →
    Calls Try.prog 31 #[.pointer (some ⟨F, 0, none⟩), T.ptr] w fun e w' => e = .returned (.tuple #[]) ∧ FitDone w w' F nd cl ok T

set_option maxRecDepth 100000 in
theorem fit_nil (F : Nat) : FitSaid F .nil := by
  intro nd cl by' ok w hc hT hb
  rw [show (BT.nil : BT PayT).ptr = .pointer none from rfl]
  have HC := hide hc
  have HB := hide hb
  clear hc hT hb
  go_enter Try.func31, Try.ntmps31
  go_wp2_with fail
  refine bodyPost_ret (v := .tuple #[]) (by simp [results, Try.results31, go_sem]) rfl ?_
  refine ⟨rfl, nd, cl, by', ok, ⟨HC.out, grown_refl _ _⟩, ?_⟩
  intro h
  obtain ⟨h1, h2, h3, h4, h5, h6⟩ := HB.out h
  exact ⟨h, by simp [nodesP], h2, by simp [colsP], h4, h5, h6, trivial, by simp [colsP]⟩
set_option maxRecDepth 100000 in
theorem fit_off (F : Nat) (T : BT PayT) (nd cl by' : Int) (w : World) (hc : w.heap[F]? = some (.cells (fitCells nd cl by' false) 77 (0, 0))) :
    Calls Try.prog 31 #[.pointer (some ⟨F, 0, none⟩), T.ptr] w fun e w' => e = .returned (.tuple #[]) ∧ FitDone w w' F nd cl false T := by
  obtain ⟨u, hu⟩ := ptrP T
  have hr : FRun w w F nd cl by' false := ⟨hc, grown_refl _ _⟩
  have c3 := hr.at.c3
  have HR := hide hr
  rw [hu]
  clear hc hr hu
  cases u with
  | none =>
    go_enter Try.func31, Try.ntmps31
    go_wp2_with fail
    refine bodyPost_ret (v := .tuple #[]) (by simp [results, Try.results31, go_sem]) rfl ?_
    exact ⟨rfl, nd, cl, by', false, HR.out, fun h => by cases h⟩
  | some x =>
    go_enter Try.func31, Try.ntmps31
    go_wp2_with fail
    refine bodyPost_ret (v := .tuple #[]) (by simp [results, Try.results31, go_sem]) rfl ?_
    exact ⟨rfl, nd, cl, by', false, HR.out, fun h => by cases h⟩

set_option maxRecDepth 100000 in
set_option maxHeartbeats 1000000 in
theorem fit_many (F b o : Nat) (ul ur : Option Addr) (pr bl : Int) (n cap : Nat) (nd cl by' : Int) (w : World) (hbF : b < F)
    (c0 : w.cell? ⟨b, o, none⟩ = some (.pointer ul)) (c1 : w.cell? ⟨b, o + 1, none⟩ = some (.pointer ur)) (c3 : w.cell? ⟨b, o + 3, none⟩ = some (.slice none n cap)) (c4 : w.cell? ⟨b, o + 4, none⟩ = some (.int .i64 bl))
    (hr : FRun w w F nd cl by' true) (h0 : 0 ≤ nd ∧ nd ≤ 16384) (h1 : 0 ≤ cl ∧ cl ≤ 1073741824) (h2 : 0 ≤ by' ∧ by' ≤ 1048576) (hx : 16384 < nd + 1) :
    Calls Try.prog 31 #[.pointer (some ⟨F, 0, none⟩), .pointer (some ⟨b, o, none⟩)] w fun e w' => e = .returned (.tuple #[]) ∧ ∃ nd' cl' b', FRun w w' F nd' cl' b' false := by
  have hne : b ≠ F := by omega
  have hne' : F ≠ b := by omega
  have z0 := hr.at.c0
  have z1 := hr.at.c1
  have z2 := hr.at.c2
  have z3 := hr.at.c3
  have f0 := hr.at.fr 0
  have f1 := hr.at.fr 1
  have f2 := hr.at.fr 2
  have f3 := hr.at.fr 3
  have hnn := fun w => run_neq_slice_nil_any (P := Try.prog) w 80 85 none n cap 0 0 Try.underlying80
  have HR := hide hr
  clear hr
  go_enter Try.func31, Try.ntmps31
  go_wp2_with fail
  refine bodyPost_ret (v := .tuple #[]) (by simp [results, Try.results31, go_sem]) rfl ?_
  exact ⟨rfl, _, _, _, (HR.out.s0 _).s3 false⟩

set_option maxRecDepth 100000 in
set_option maxHeartbeats 1000000 in
theorem fit_manyS (x : Addr) (F b o : Nat) (ul ur : Option Addr) (pr bl : Int) (n cap : Nat) (nd cl by' : Int) (w : World) (hbF : b < F)
    (c0 : w.cell? ⟨b, o, none⟩ = some (.pointer ul)) (c1 : w.cell? ⟨b, o + 1, none⟩ = some (.pointer ur)) (c3 : w.cell? ⟨b, o + 3, none⟩ = some (.slice (some x) n cap)) (c4 : w.cell? ⟨b, o + 4, none⟩ = some (.int .i64 bl))
    (hr : FRun w w F nd cl by' true) (h0 : 0 ≤ nd ∧ nd ≤ 16384) (h1 : 0 ≤ cl ∧ cl ≤ 1073741824) (h2 : 0 ≤ by' ∧ by' ≤ 1048576) (hx : 16384 < nd + 1) :
    Calls Try.prog 31 #[.pointer (some ⟨F, 0, none⟩), .pointer (some ⟨b, o, none⟩)] w fun e w' => e = .returned (.tuple #[]) ∧ ∃ nd' cl' b', FRun w w' F nd' cl' b' false := by
  have hne : b ≠ F := by omega
  have hne' : F ≠ b := by omega
  have z0 := hr.at.c0
  have z1 := hr.at.c1
  have z2 := hr.at.c2
  have z3 := hr.at.c3
  have f0 := hr.at.fr 0
  have f1 := hr.at.fr 1
  have f2 := hr.at.fr 2
  have f3 := hr.at.fr 3
  have hnn := fun w => run_neq_slice_nil_any (P := Try.prog) w 80 85 (some x) n cap 0 0 Try.underlying80
  have HR := hide hr
  clear hr
  go_enter Try.func31, Try.ntmps31
  go_wp2_with fail
  refine bodyPost_ret (v := .tuple #[]) (by simp [results, Try.results31, go_sem]) rfl ?_
  exact ⟨rfl, _, _, _, (HR.out.s0 _).s3 false⟩

set_option maxRecDepth 100000 in
set_option maxHeartbeats 1000000 in
theorem fit_neg (F b o : Nat) (ul ur : Option Addr) (pr bl : Int) (n cap : Nat) (nd cl by' : Int) (w : World) (hbF : b < F)
    (c0 : w.cell? ⟨b, o, none⟩ = some (.pointer ul)) (c1 : w.cell? ⟨b, o + 1, none⟩ = some (.pointer ur)) (c3 : w.cell? ⟨b, o + 3, none⟩ = some (.slice none n cap)) (c4 : w.cell? ⟨b, o + 4, none⟩ = some (.int .i64 bl))
    (hr : FRun w w F nd cl by' true) (h0 : 0 ≤ nd ∧ nd ≤ 16384) (h1 : 0 ≤ cl ∧ cl ≤ 1073741824) (h2 : 0 ≤ by' ∧ by' ≤ 1048576) (hx : nd + 1 ≤ 16384) (hy : bl < 0) :
    Calls Try.prog 31 #[.pointer (some ⟨F, 0, none⟩), .pointer (some ⟨b, o, none⟩)] w fun e w' => e = .returned (.tuple #[]) ∧ ∃ nd' cl' b', FRun w w' F nd' cl' b' false := by
  have hne : b ≠ F := by omega
  have hne' : F ≠ b := by omega
  have z0 := hr.at.c0
  have z1 := hr.at.c1
  have z2 := hr.at.c2
  have z3 := hr.at.c3
  have f0 := hr.at.fr 0
  have f1 := hr.at.fr 1
  have f2 := hr.at.fr 2
  have f3 := hr.at.fr 3
  have hnn := fun w => run_neq_slice_nil_any (P := Try.prog) w 80 85 none n cap 0 0 Try.underlying80
  have HR := hide hr
  clear hr
  go_enter Try.func31, Try.ntmps31
  go_wp2_with fail
  refine bodyPost_ret (v := .tuple #[]) (by simp [results, Try.results31, go_sem]) rfl ?_
  exact ⟨rfl, _, _, _, (HR.out.s0 _).s3 false⟩

set_option maxRecDepth 100000 in
set_option maxHeartbeats 1000000 in
theorem fit_wide (F b o : Nat) (ul ur : Option Addr) (pr bl : Int) (n cap : Nat) (nd cl by' : Int) (w : World) (hbF : b < F)
    (c0 : w.cell? ⟨b, o, none⟩ = some (.pointer ul)) (c1 : w.cell? ⟨b, o + 1, none⟩ = some (.pointer ur)) (c3 : w.cell? ⟨b, o + 3, none⟩ = some (.slice none n cap)) (c4 : w.cell? ⟨b, o + 4, none⟩ = some (.int .i64 bl))
    (hr : FRun w w F nd cl by' true) (h0 : 0 ≤ nd ∧ nd ≤ 16384) (h1 : 0 ≤ cl ∧ cl ≤ 1073741824) (h2 : 0 ≤ by' ∧ by' ≤ 1048576) (hx : nd + 1 ≤ 16384) (hy : 1073741824 < bl) :
    Calls Try.prog 31 #[.pointer (some ⟨F, 0, none⟩), .pointer (some ⟨b, o, none⟩)] w fun e w' => e = .returned (.tuple #[]) ∧ ∃ nd' cl' b', FRun w w' F nd' cl' b' false := by
  have hne : b ≠ F := by omega
  have hne' : F ≠ b := by omega
  have z0 := hr.at.c0
  have z1 := hr.at.c1
  have z2 := hr.at.c2
  have z3 := hr.at.c3
  have f0 := hr.at.fr 0
  have f1 := hr.at.fr 1
  have f2 := hr.at.fr 2
  have f3 := hr.at.fr 3
  have hnn := fun w => run_neq_slice_nil_any (P := Try.prog) w 80 85 none n cap 0 0 Try.underlying80
  have HR := hide hr
  clear hr
  go_enter Try.func31, Try.ntmps31
  go_wp2_with fail
  refine bodyPost_ret (v := .tuple #[]) (by simp [results, Try.results31, go_sem]) rfl ?_
  exact ⟨rfl, _, _, _, (HR.out.s0 _).s3 false⟩

set_option maxRecDepth 100000 in
set_option maxHeartbeats 1000000 in
theorem fit_sum (F b o : Nat) (ul ur : Option Addr) (pr bl : Int) (n cap : Nat) (nd cl by' : Int) (w : World) (hbF : b < F)
    (c0 : w.cell? ⟨b, o, none⟩ = some (.pointer ul)) (c1 : w.cell? ⟨b, o + 1, none⟩ = some (.pointer ur)) (c3 : w.cell? ⟨b, o + 3, none⟩ = some (.slice none n cap)) (c4 : w.cell? ⟨b, o + 4, none⟩ = some (.int .i64 bl))
    (hr : FRun w w F nd cl by' true) (h0 : 0 ≤ nd ∧ nd ≤ 16384) (h1 : 0 ≤ cl ∧ cl ≤ 1073741824) (h2 : 0 ≤ by' ∧ by' ≤ 1048576) (hx : nd + 1 ≤ 16384) (hy : 0 ≤ bl ∧ bl ≤ 1073741824) (hz : 1073741824 < cl + bl) :
    Calls Try.prog 31 #[.pointer (some ⟨F, 0, none⟩), .pointer (some ⟨b, o, none⟩)] w fun e w' => e = .returned (.tuple #[]) ∧ ∃ nd' cl' b', FRun w w' F nd' cl' b' false := by
  have hne : b ≠ F := by omega
  have hne' : F ≠ b := by omega
  have z0 := hr.at.c0
  have z1 := hr.at.c1
  have z2 := hr.at.c2
  have z3 := hr.at.c3
  have f0 := hr.at.fr 0
  have f1 := hr.at.fr 1
  have f2 := hr.at.fr 2
  have f3 := hr.at.fr 3
  have hnn := fun w => run_neq_slice_nil_any (P := Try.prog) w 80 85 none n cap 0 0 Try.underlying80
  have HR := hide hr
  clear hr
  go_enter Try.func31, Try.ntmps31
  go_wp2_with fail
  refine bodyPost_ret (v := .tuple #[]) (by simp [results, Try.results31, go_sem]) rfl ?_
  exact ⟨rfl, _, _, _, ((HR.out.s0 _).s1 _).s3 false⟩

set_option maxRecDepth 100000 in
set_option maxHeartbeats 1000000 in
theorem fit_cellsS (x : Addr) (F b o : Nat) (ul ur : Option Addr) (pr bl : Int) (n cap : Nat) (nd cl by' : Int) (w : World) (hbF : b < F)
    (c0 : w.cell? ⟨b, o, none⟩ = some (.pointer ul)) (c1 : w.cell? ⟨b, o + 1, none⟩ = some (.pointer ur)) (c3 : w.cell? ⟨b, o + 3, none⟩ = some (.slice (some x) n cap)) (c4 : w.cell? ⟨b, o + 4, none⟩ = some (.int .i64 bl))
    (hr : FRun w w F nd cl by' true) (h0 : 0 ≤ nd ∧ nd ≤ 16384) (h1 : 0 ≤ cl ∧ cl ≤ 1073741824) (h2 : 0 ≤ by' ∧ by' ≤ 1048576) (hx : nd + 1 ≤ 16384) (hn : n ≤ maxLen) (hy : 131072 < n) :
    Calls Try.prog 31 #[.pointer (some ⟨F, 0, none⟩), .pointer (some ⟨b, o, none⟩)] w fun e w' => e = .returned (.tuple #[]) ∧ ∃ nd' cl' b', FRun w w' F nd' cl' b' false := by
  have hne : b ≠ F := by omega
  have hne' : F ≠ b := by omega
  have z0 := hr.at.c0
  have z1 := hr.at.c1
  have z2 := hr.at.c2
  have z3 := hr.at.c3
  have f0 := hr.at.fr 0
  have f1 := hr.at.fr 1
  have f2 := hr.at.fr 2
  have f3 := hr.at.fr 3
  have hnn := fun w => run_neq_slice_nil_any (P := Try.prog) w 80 85 (some x) n cap 0 0 Try.underlying80
  have HR := hide hr
  clear hr
  go_enter Try.func31, Try.ntmps31
  go_wp2_with fail
  refine bodyPost_ret (v := .tuple #[]) (by simp [results, Try.results31, go_sem]) rfl ?_
  exact ⟨rfl, _, _, _, (HR.out.s0 _).s3 false⟩

set_option maxRecDepth 100000 in
set_option maxHeartbeats 1000000 in
theorem fit_bytesS (x : Addr) (F b o : Nat) (ul ur : Option Addr) (pr bl : Int) (n cap : Nat) (nd cl by' : Int) (w : World) (hbF : b < F)
    (c0 : w.cell? ⟨b, o, none⟩ = some (.pointer ul)) (c1 : w.cell? ⟨b, o + 1, none⟩ = some (.pointer ur)) (c3 : w.cell? ⟨b, o + 3, none⟩ = some (.slice (some x) n cap)) (c4 : w.cell? ⟨b, o + 4, none⟩ = some (.int .i64 bl))
    (hr : FRun w w F nd cl by' true) (h0 : 0 ≤ nd ∧ nd ≤ 16384) (h1 : 0 ≤ cl ∧ cl ≤ 1073741824) (h2 : 0 ≤ by' ∧ by' ≤ 1048576) (hx : nd + 1 ≤ 16384) (hy : n ≤ 131072) (hz : 1048576 < by' + 8 * (n : Int)) :
    Calls Try.prog 31 #[.pointer (some ⟨F, 0, none⟩), .pointer (some ⟨b, o, none⟩)] w fun e w' => e = .returned (.tuple #[]) ∧ ∃ nd' cl' b', FRun w w' F nd' cl' b' false := by
  have hne : b ≠ F := by omega
  have hne' : F ≠ b := by omega
  have z0 := hr.at.c0
  have z1 := hr.at.c1
  have z2 := hr.at.c2
  have z3 := hr.at.c3
  have f0 := hr.at.fr 0
  have f1 := hr.at.fr 1
  have f2 := hr.at.fr 2
  have f3 := hr.at.fr 3
  have hnn := fun w => run_neq_slice_nil_any (P := Try.prog) w 80 85 (some x) n cap 0 0 Try.underlying80
  have HR := hide hr
  clear hr
  go_enter Try.func31, Try.ntmps31
  go_wp2_with fail
  go_region
  go_wp2_with fail
  refine bodyPost_ret (v := .tuple #[]) (by simp [results, Try.results31, go_sem]) rfl ?_
  exact ⟨rfl, _, _, _, ((HR.out.s0 _).s2 _).drewN 1 |>.s3 false⟩

set_option maxRecDepth 100000 in
set_option maxHeartbeats 1000000 in
theorem fit_sumS (x : Addr) (F b o : Nat) (ul ur : Option Addr) (pr bl : Int) (n cap : Nat) (nd cl by' : Int) (w : World) (hbF : b < F)
    (c0 : w.cell? ⟨b, o, none⟩ = some (.pointer ul)) (c1 : w.cell? ⟨b, o + 1, none⟩ = some (.pointer ur)) (c3 : w.cell? ⟨b, o + 3, none⟩ = some (.slice (some x) n cap)) (c4 : w.cell? ⟨b, o + 4, none⟩ = some (.int .i64 bl))
    (hr : FRun w w F nd cl by' true) (h0 : 0 ≤ nd ∧ nd ≤ 16384) (h1 : 0 ≤ cl ∧ cl ≤ 1073741824) (h2 : 0 ≤ by' ∧ by' ≤ 1048576) (hx : nd + 1 ≤ 16384) (hy : n ≤ 131072) (hz : by' + 8 * (n : Int) ≤ 1048576) (hv : 1073741824 < cl + (n : Int)) :
    Calls Try.prog 31 #[.pointer (some ⟨F, 0, none⟩), .pointer (some ⟨b, o, none⟩)] w fun e w' => e = .returned (.tuple #[]) ∧ ∃ nd' cl' b', FRun w w' F nd' cl' b' false := by
  have hne : b ≠ F := by omega
  have hne' : F ≠ b := by omega
  have z0 := hr.at.c0
  have z1 := hr.at.c1
  have z2 := hr.at.c2
  have z3 := hr.at.c3
  have f0 := hr.at.fr 0
  have f1 := hr.at.fr 1
  have f2 := hr.at.fr 2
  have f3 := hr.at.fr 3
  have hnn := fun w => run_neq_slice_nil_any (P := Try.prog) w 80 85 (some x) n cap 0 0 Try.underlying80
  have HR := hide hr
  clear hr
  go_enter Try.func31, Try.ntmps31
  go_wp2_with fail
  go_region
  go_wp2_with fail
  refine bodyPost_ret (v := .tuple #[]) (by simp [results, Try.results31, go_sem]) rfl ?_
  exact ⟨rfl, _, _, _, (((HR.out.s0 _).s2 _).drewN 1 |>.s1 _).s3 false⟩

set_option maxRecDepth 100000 in
set_option maxHeartbeats 1000000 in
theorem fit_good (F b o : Nat) (ul ur : Option Addr) (pr bl : Int) (n cap : Nat) (nd cl by' : Int) (w : World) (hbF : b < F)
    (c0 : w.cell? ⟨b, o, none⟩ = some (.pointer ul)) (c1 : w.cell? ⟨b, o + 1, none⟩ = some (.pointer ur)) (c3 : w.cell? ⟨b, o + 3, none⟩ = some (.slice none n cap)) (c4 : w.cell? ⟨b, o + 4, none⟩ = some (.int .i64 bl))
    (hr : FRun w w F nd cl by' true) (h0 : 0 ≤ nd ∧ nd ≤ 16384) (h1 : 0 ≤ cl ∧ cl ≤ 1073741824) (h2 : 0 ≤ by' ∧ by' ≤ 1048576) (hx : nd + 1 ≤ 16384) (hy : 0 ≤ bl ∧ bl ≤ 1073741824) (hz : cl + bl ≤ 1073741824)
    (Q1 : Int → Int → Int → Bool → Prop) (Q2 : Int → Int → Int → Int → Int → Int → Bool → Prop)
    (kl : ∀ w', FRun w w' F (nd + 1) (cl + bl) by' true → Calls Try.prog 31 #[.pointer (some ⟨F, 0, none⟩), .pointer ul] w' fun e w'' => e = .returned (.tuple #[]) ∧ ∃ n1 k1 y1 ok, FRun w w'' F n1 k1 y1 ok ∧ Q1 n1 k1 y1 ok)
    (kr : ∀ n1 k1 y1 w', Q1 n1 k1 y1 true → FRun w w' F n1 k1 y1 true → Calls Try.prog 31 #[.pointer (some ⟨F, 0, none⟩), .pointer ur] w' fun e w'' => e = .returned (.tuple #[]) ∧ ∃ n2 k2 y2 ok, FRun w w'' F n2 k2 y2 ok ∧ Q2 n1 k1 y1 n2 k2 y2 ok) :
    Calls Try.prog 31 #[.pointer (some ⟨F, 0, none⟩), .pointer (some ⟨b, o, none⟩)] w fun e w' => e = .returned (.tuple #[]) ∧ ∃ n2 k2 y2 ok, FRun w w' F n2 k2 y2 ok ∧ (ok = true → ∃ n1 k1 y1, Q1 n1 k1 y1 true ∧ Q2 n1 k1 y1 n2 k2 y2 true) := by
  have hne : b ≠ F := by omega
  have hne' : F ≠ b := by omega
  have z0 := hr.at.c0
  have z1 := hr.at.c1
  have z2 := hr.at.c2
  have z3 := hr.at.c3
  have f0 := hr.at.fr 0
  have f1 := hr.at.fr 1
  have f2 := hr.at.fr 2
  have f3 := hr.at.fr 3
  have hnn := fun w => run_neq_slice_nil_any (P := Try.prog) w 80 85 none n cap 0 0 Try.underlying80
  have HR := hide hr
  have KL := hide kl
  have KR := hide kr
  have C1 := hide c1
  clear hr kl kr c1
  go_enter Try.func31, Try.ntmps31
  go_wp2_with fail
  refine (KL.out _ ?_).mono ?_
  · exact (HR.out.s0 _).s1 _
  rintro e w1 ⟨rfl, n1, k1, y1, ok1, hr1, hq1⟩
  have z3' := hr1.at.c3
  have y1' : w1.cell? ⟨b, o + 1, none⟩ = some (.pointer ur) := grown_cell hr1.g C1.out hne
  have HR1 := hide hr1
  have HQ1 := hide hq1
  clear hr1 hq1 z0 z1 z2 z3 f0 f1 f2 f3
  cases ok1 with
  | false =>
    go_wp2_with fail
    refine bodyPost_ret (v := .tuple #[]) (by simp [results, Try.results31, go_sem]) rfl ?_
    exact ⟨rfl, n1, k1, y1, false, HR1.out, fun h => by cases h⟩
  | true =>
    go_wp2_with fail
    refine (KR.out n1 k1 y1 _ HQ1.out HR1.out).mono ?_
    rintro e w2 ⟨rfl, n2, k2, y2, ok2, hr2, hq2⟩
    have HR2 := hide hr2
    have HQ2 := hide hq2
    clear hr2 hq2
    go_wp2_with fail
    go_end0
    exact ⟨rfl, n2, k2, y2, ok2, HR2.out, fun h => by subst h; exact ⟨n1, k1, y1, HQ1.out, HQ2.out⟩⟩

set_option maxRecDepth 100000 in
set_option maxHeartbeats 1000000 in
theorem fit_goodS (x : Addr) (F b o : Nat) (ul ur : Option Addr) (pr bl : Int) (n cap : Nat) (nd cl by' : Int) (w : World) (hbF : b < F)
    (c0 : w.cell? ⟨b, o, none⟩ = some (.pointer ul)) (c1 : w.cell? ⟨b, o + 1, none⟩ = some (.pointer ur)) (c3 : w.cell? ⟨b, o + 3, none⟩ = some (.slice (some x) n cap)) (c4 : w.cell? ⟨b, o + 4, none⟩ = some (.int .i64 bl))
    (hr : FRun w w F nd cl by' true) (h0 : 0 ≤ nd ∧ nd ≤ 16384) (h1 : 0 ≤ cl ∧ cl ≤ 1073741824) (h2 : 0 ≤ by' ∧ by' ≤ 1048576) (hx : nd + 1 ≤ 16384) (hy : n ≤ 131072) (hz : by' + 8 * (n : Int) ≤ 1048576) (hv : cl + (n : Int) ≤ 1073741824)
    (Q1 : Int → Int → Int → Bool → Prop) (Q2 : Int → Int → Int → Int → Int → Int → Bool → Prop)
    (kl : ∀ w', FRun w w' F (nd + 1) (cl + n) (by' + 8 * n) true → Calls Try.prog 31 #[.pointer (some ⟨F, 0, none⟩), .pointer ul] w' fun e w'' => e = .returned (.tuple #[]) ∧ ∃ n1 k1 y1 ok, FRun w w'' F n1 k1 y1 ok ∧ Q1 n1 k1 y1 ok)
    (kr : ∀ n1 k1 y1 w', Q1 n1 k1 y1 true → FRun w w' F n1 k1 y1 true → Calls Try.prog 31 #[.pointer (some ⟨F, 0, none⟩), .pointer ur] w' fun e w'' => e = .returned (.tuple #[]) ∧ ∃ n2 k2 y2 ok, FRun w w'' F n2 k2 y2 ok ∧ Q2 n1 k1 y1 n2 k2 y2 ok) :
    Calls Try.prog 31 #[.pointer (some ⟨F, 0, none⟩), .pointer (some ⟨b, o, none⟩)] w fun e w' => e = .returned (.tuple #[]) ∧ ∃ n2 k2 y2 ok, FRun w w' F n2 k2 y2 ok ∧ (ok = true → ∃ n1 k1 y1, Q1 n1 k1 y1 true ∧ Q2 n1 k1 y1 n2 k2 y2 true) := by
  have hne : b ≠ F := by omega
  have hne' : F ≠ b := by omega
  have z0 := hr.at.c0
  have z1 := hr.at.c1
  have z2 := hr.at.c2
  have z3 := hr.at.c3
  have f0 := hr.at.fr 0
  have f1 := hr.at.fr 1
  have f2 := hr.at.fr 2
  have f3 := hr.at.fr 3
  have hnn := fun w => run_neq_slice_nil_any (P := Try.prog) w 80 85 (some x) n cap 0 0 Try.underlying80
  have HR := hide hr
  have KL := hide kl
  have KR := hide kr
  have C1 := hide c1
  clear hr kl kr c1
  go_enter Try.func31, Try.ntmps31
  go_wp2_with fail
  go_region
  go_wp2_with fail
  refine (KL.out _ ?_).mono ?_
  · exact ((HR.out.s0 _).s2 _).drewN 1 |>.s1 _
  rintro e w1 ⟨rfl, n1, k1, y1, ok1, hr1, hq1⟩
  have z3' := hr1.at.c3
  have y1' : w1.cell? ⟨b, o + 1, none⟩ = some (.pointer ur) := grown_cell hr1.g C1.out hne
  have HR1 := hide hr1
  have HQ1 := hide hq1
  clear hr1 hq1 z0 z1 z2 z3 f0 f1 f2 f3
  cases ok1 with
  | false =>
    go_wp2_with fail
    refine bodyPost_ret (v := .tuple #[]) (by simp [results, Try.results31, go_sem]) rfl ?_
    exact ⟨rfl, n1, k1, y1, false, HR1.out, fun h => by cases h⟩
  | true =>
    go_wp2_with fail
    refine (KR.out n1 k1 y1 _ HQ1.out HR1.out).mono ?_
    rintro e w2 ⟨rfl, n2, k2, y2, ok2, hr2, hq2⟩
    have HR2 := hide hr2
    have HQ2 := hide hq2
    clear hr2 hq2
    go_wp2_with fail
    go_end0
    exact ⟨rfl, n2, k2, y2, ok2, HR2.out, fun h => by subst h; exact ⟨n1, k1, y1, HQ1.out, HQ2.out⟩⟩

def Good1 (nd cl : Int) (T : BT PayT) (n1 k1 y1 : Int) (ok : Bool) : Prop := ok = true → n1 = nd + nodesP T ∧ n1 ≤ 16384 ∧ k1 = cl + colsP T ∧ k1 ≤ 1073741824 ∧ 0 ≤ y1 ∧ y1 ≤ 1048576 ∧ Fits T ∧ 0 ≤ colsP T

theorem fit_sub {F : Nat} {T : BT PayT} (h : FitSaid F T) {u : Option Addr} (hu : T.ptr = .pointer u) {w w' : World} (hT : PTIn w F T) {nd cl y : Int} (hr : FRun w w' F nd cl y true) (b0 : 0 ≤ nd ∧ nd ≤ 16384) (b1 : 0 ≤ cl ∧ cl ≤ 1073741824) (b2 : 0 ≤ y ∧ y ≤ 1048576) (hF : F < w.heap.size) :
    Calls Try.prog 31 #[.pointer (some ⟨F, 0, none⟩), .pointer u] w' fun e w'' => e = .returned (.tuple #[]) ∧ ∃ n1 k1 y1 ok, FRun w w'' F n1 k1 y1 ok ∧ Good1 nd cl T n1 k1 y1 ok := by
  rw [← hu]
  refine (h nd cl y true w' hr.c (hT.below fun k hk => hr.g.block k (by omega) (by intro e; injection e with e; omega)) (fun _ => ⟨b0.1, b0.2, b1.1, b1.2, b2.1, b2.2⟩)).mono ?_
  rintro e w'' ⟨rfl, nd', cl', b', ok', hr', hq⟩
  refine ⟨rfl, nd', cl', b', ok', ⟨hr'.c, grown_trans hr.g hr'.g⟩, ?_⟩
  intro hok
  obtain ⟨_, h1, h2, h3, h4, h5, h6, h7, h8⟩ := hq hok
  exact ⟨h1, h2, h3, h4, h5, h6, h7, h8⟩

theorem fit_node (F b o : Nat) (p : PayT) (l r : BT PayT) (hl : FitSaid F l) (hr : FitSaid F r) : FitSaid F (.node b o p l r) := by
  intro nd cl by' ok w hc hT hb
  cases ok with
  | false => exact fit_off F (.node b o p l r) nd cl by' w hc
  | true =>
    obtain ⟨b0a, b0b, b1a, b1b, b2a, b2b⟩ := hb rfl
    obtain ⟨hbF, c0, c1, c2, c3, c4, hnil, hml, hcel, hTl, hTr⟩ := hT
    obtain ⟨ul, hul⟩ := ptrP l
    obtain ⟨ur, hur⟩ := ptrP r
    rw [hul] at c0
    rw [hur] at c1
    have hr0 : FRun w w F nd cl by' true := ⟨hc, grown_refl _ _⟩
    have hF : F < w.heap.size := (Array.getElem?_eq_some_iff.1 hc).1
    rw [show (BT.node b o p l r).ptr = .pointer (some ⟨b, o, none⟩) from rfl]
    have bad : ∀ (e : Ending) (w' : World), (e = .returned (.tuple #[]) ∧ ∃ nd' cl' b', FRun w w' F nd' cl' b' false) → e = .returned (.tuple #[]) ∧ FitDone w w' F nd cl true (.node b o p l r) := by
      rintro e w' ⟨h1, nd', cl', b', h2⟩
      exact ⟨h1, nd', cl', b', false, h2, fun h => by cases h⟩
    have fin : ∀ (y0 : Int) (e : Ending) (w' : World), 0 ≤ p.cols → p.n ≤ 131072 → (e = .returned (.tuple #[]) ∧ ∃ n2 k2 y2 ok, FRun w w' F n2 k2 y2 ok ∧ (ok = true → ∃ n1 k1 y1, Good1 (nd + 1) (cl + p.cols) l n1 k1 y1 true ∧ Good1 n1 k1 r n2 k2 y2 true)) →
        e = .returned (.tuple #[]) ∧ FitDone w w' F nd cl true (.node b o p l r) := by
      rintro y0 e w' hp0 hp1 ⟨h1, n2, k2, y2, ok, h2, h3⟩
      refine ⟨h1, n2, k2, y2, ok, h2, ?_⟩
      intro hok
      obtain ⟨n1, k1, y1, q1, q2⟩ := h3 hok
      obtain ⟨a1, a2, a3, a4, a5, a6, a7, a8⟩ := q1 rfl
      obtain ⟨d1, d2, d3, d4, d5, d6, d7, d8⟩ := q2 rfl
      refine ⟨rfl, ?_, d2, ?_, d4, d5, d6, ⟨hp0, hp1, a7, d7⟩, ?_⟩
      · simp only [nodesP]; omega
      · simp only [colsP]; omega
      · simp only [colsP]; omega
    by_cases hx : 16384 < nd + 1
    · cases ha : p.a with
      | none =>
        rw [ha] at c3
        exact (fit_many F b o ul ur p.pr p.bl p.n p.cap nd cl by' w hbF c0 c1 c3 c4 hr0 ⟨b0a, b0b⟩ ⟨b1a, b1b⟩ ⟨b2a, b2b⟩ hx).mono bad
      | some x =>
        rw [ha] at c3
        exact (fit_manyS x F b o ul ur p.pr p.bl p.n p.cap nd cl by' w hbF c0 c1 c3 c4 hr0 ⟨b0a, b0b⟩ ⟨b1a, b1b⟩ ⟨b2a, b2b⟩ hx).mono bad
    · cases ha : p.a with
      | none =>
        rw [ha] at c3
        have hcols : p.cols = p.bl := by unfold PayT.cols; rw [ha]; rfl
        have hn0 : p.n = 0 := hnil ha
        by_cases hy1 : p.bl < 0
        · exact (fit_neg F b o ul ur p.pr p.bl p.n p.cap nd cl by' w hbF c0 c1 c3 c4 hr0 ⟨b0a, b0b⟩ ⟨b1a, b1b⟩ ⟨b2a, b2b⟩ (by omega) hy1).mono bad
        · by_cases hy2 : 1073741824 < p.bl
          · exact (fit_wide F b o ul ur p.pr p.bl p.n p.cap nd cl by' w hbF c0 c1 c3 c4 hr0 ⟨b0a, b0b⟩ ⟨b1a, b1b⟩ ⟨b2a, b2b⟩ (by omega) hy2).mono bad
          · by_cases hz : 1073741824 < cl + p.bl
            · exact (fit_sum F b o ul ur p.pr p.bl p.n p.cap nd cl by' w hbF c0 c1 c3 c4 hr0 ⟨b0a, b0b⟩ ⟨b1a, b1b⟩ ⟨b2a, b2b⟩ (by omega) (by omega) hz).mono bad
            · refine (fit_good F b o ul ur p.pr p.bl p.n p.cap nd cl by' w hbF c0 c1 c3 c4 hr0 ⟨b0a, b0b⟩ ⟨b1a, b1b⟩ ⟨b2a, b2b⟩ (by omega) (by omega) (by omega) (Good1 (nd + 1) (cl + p.cols) l) (fun n1 k1 y1 n2 k2 y2 ok => Good1 n1 k1 r n2 k2 y2 ok) ?_ ?_).mono (fun e w' => fin by' e w' (by omega) (by omega))
              · intro w' hw'
                rw [hcols]
                exact fit_sub hl hul hTl hw' (by omega) (by omega) ⟨b2a, b2b⟩ hF
              · intro n1 k1 y1 w' hq hw'
                obtain ⟨a1, a2, a3, a4, a5, a6, a7, a8⟩ := hq rfl
                exact fit_sub hr hur hTr hw' (by omega) (by omega) ⟨a5, a6⟩ hF
      | some x =>
        rw [ha] at c3
        have hcols : p.cols = p.n := by unfold PayT.cols; rw [ha]; rfl
        by_cases hy1 : 131072 < p.n
        · exact (fit_cellsS x F b o ul ur p.pr p.bl p.n p.cap nd cl by' w hbF c0 c1 c3 c4 hr0 ⟨b0a, b0b⟩ ⟨b1a, b1b⟩ ⟨b2a, b2b⟩ (by omega) hml hy1).mono bad
        · by_cases hy2 : 1048576 < by' + 8 * (p.n : Int)
          · exact (fit_bytesS x F b o ul ur p.pr p.bl p.n p.cap nd cl by' w hbF c0 c1 c3 c4 hr0 ⟨b0a, b0b⟩ ⟨b1a, b1b⟩ ⟨b2a, b2b⟩ (by omega) (by omega) hy2).mono bad
          · by_cases hz : 1073741824 < cl + (p.n : Int)
            · exact (fit_sumS x F b o ul ur p.pr p.bl p.n p.cap nd cl by' w hbF c0 c1 c3 c4 hr0 ⟨b0a, b0b⟩ ⟨b1a, b1b⟩ ⟨b2a, b2b⟩ (by omega) (by omega) (by omega) hz).mono bad
            · refine (fit_goodS x F b o ul ur p.pr p.bl p.n p.cap nd cl by' w hbF c0 c1 c3 c4 hr0 ⟨b0a, b0b⟩ ⟨b1a, b1b⟩ ⟨b2a, b2b⟩ (by omega) (by omega) (by omega) (by omega) (Good1 (nd + 1) (cl + p.cols) l) (fun n1 k1 y1 n2 k2 y2 ok => Good1 n1 k1 r n2 k2 y2 ok) ?_ ?_).mono (fun e w' => fin by' e w' (by omega) (by omega))
              · intro w' hw'
                rw [hcols]
                exact fit_sub hl hul hTl hw' (by omega) (by omega) (by omega) hF
              · intro n1 k1 y1 w' hq hw'
                obtain ⟨a1, a2, a3, a4, a5, a6, a7, a8⟩ := hq rfl
                exact fit_sub hr hur hTr hw' (by omega) (by omega) ⟨a5, a6⟩ hF

theorem fit_any (F : Nat) : ∀ T : BT PayT, FitSaid F T := by
  intro T
  induction T with
  | nil => exact fit_nil F
  | node b o p l r ihl ihr => exact fit_node F b o p l r ihl ihr

/-- both trees fit, together -/
structure FitBoth (A B : BT PayT) : Prop where
  fa : Fits A
  fb : Fits B
  nodes : nodesP A + nodesP B ≤ 16384
  ca : 0 ≤ colsP A
  cb : 0 ≤ colsP B
  cols : colsP A + colsP B ≤ 1073741824

set_option maxHeartbeats 400000 in
theorem piecesFit_any (A B : BT PayT) (w : World) (hA : PTIn w w.heap.size A) (hB : PTIn w w.heap.size B) :
    Calls Try.prog 13 #[A.ptr, B.ptr] w fun e w' => ∃ ok, e = .returned (.bool ok) ∧ Below w.heap.size w w' ∧ (ok = true → FitBoth A B) := by
  obtain ⟨ua, hua⟩ := ptrP A
  obtain ⟨ub, hub⟩ := ptrP B
  have hF : (w.alloc (.cells (fitCells 0 0 0 true) 77)).heap[w.heap.size]? = some (.cells (fitCells 0 0 0 true) 77 (0, 0)) := by
    show (w.heap.push _)[w.heap.size]? = _
    simp
  have hbel : Below w.heap.size w (w.alloc (.cells (fitCells 0 0 0 true) 77)) := (Below.refl _ _).alloc (Nat.le_refl _) _
  have k1 := fit_any w.heap.size A 0 0 0 true _ hF (hA.below fun k hk => hbel.block k hk) (fun _ => by omega)
  rw [hua] at k1
  have KB := hide (fit_any w.heap.size B)
  have HB := hide hB
  have K1 := hide k1
  have HBEL := hide hbel
  have HUB := hide hub
  rw [hua, hub]
  clear k1 hF hbel hA hB hua hub
  simp only [fitCells] at K1 HBEL
  go_enter Try.func13, Try.ntmps13
  go_wp2_with fail
  refine K1.out.mono ?_
  rintro e w1 ⟨rfl, n1, c1, y1, ok1, hr1, hq1⟩
  have hb1 : Below w.heap.size w w1 := HBEL.out.grown hr1.g (by simp) (fun k hk => by injection hk with hk; omega)
  have k2 := KB.out n1 c1 y1 ok1 w1 hr1.c (HB.out.below fun k hk => hb1.block k hk) (fun h => by
    obtain ⟨_, h1, h2, h3, h4, h5, h6, h7, h8⟩ := hq1 h
    omega)
  rw [HUB.out] at k2
  have K2 := hide k2
  have HQ1 := hide hq1
  have HB1 := hide hb1
  clear hr1 hq1 hb1 k2 K1
  go_wp2_with fail
  refine K2.out.mono ?_
  rintro e w2 ⟨rfl, n2, c2, y2, ok2, hr2, hq2⟩
  have z3 := hr2.at.c3
  have HB2 := hide (HB1.out.grown hr2.g (HB1.out.size) (fun k hk => by injection hk with hk; omega))
  have HQ2 := hide hq2
  clear hr2 hq2 K2
  go_wp2_with fail
  go_ret
  refine ⟨ok2, rfl, HB2.out, ?_⟩
  intro h
  obtain ⟨e1, e2, e3, e4, e5, e6, e7, e8, e9⟩ := HQ2.out h
  obtain ⟨_, d2, d3, d4, d5, d6, d7, d8, d9⟩ := HQ1.out e1
  exact ⟨d8, e8, by omega, d9, e9, by omega⟩

end Go.Proofs.Qxb6601196a
