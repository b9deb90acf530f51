import Derived.Test.Qxb6601196aExt
import Derived.Deep.Trees
namespace Go.Proofs.Qxb6601196a
open Go.ChangeShapes Go.WideShapes Go.ChangeAt Go.RowKit Go.Deep

/-- what a piece is made of: priority, blanks; its cells: nil or not, how many, what they hold; the slice value that the piece bears, and the one that its snapshot bears -/
structure PI where
  pr : Int
  bl : Int
  nl : Bool
  n : Nat
  code : Nat → Int
  sty : Nat → Int
  cs : Value
  sn : Value

/-- the columns of the piece of its own -/
def PI.cols (a : PI) : Int := if a.nl then a.bl else a.n

def colsT : BT PI → Int
  | .nil => 0
  | .node _ _ a l r => colsT l + a.cols + colsT r
def nodesT : BT PI → Nat
  | .nil => 0
  | .node _ _ _ l r => nodesT l + 1 + nodesT r
def inorder : BT PI → List (Nat × PI)
  | .nil => []
  | .node b _ a l r => inorder l ++ (b, a) :: inorder r
def blocks (T : BT PI) : List Nat := (inorder T).map Prod.fst
def NN (T : BT PI) : Prop := ∀ x, x ∈ inorder T → 0 ≤ x.2.cols
def sumC : List (Nat × PI) → Int
  | [] => 0
  | x :: l => x.2.cols + sumC l

theorem sumC_append : ∀ (l m : List (Nat × PI)), sumC (l ++ m) = sumC l + sumC m
  | [], m => by simp [sumC]
  | x :: l, m => by simp only [List.cons_append, sumC]; rw [sumC_append l m]; omega
theorem colsT_sum : ∀ T : BT PI, colsT T = sumC (inorder T)
  | .nil => rfl
  | .node b o a l r => by
    simp only [colsT, inorder]
    rw [sumC_append, colsT_sum l, colsT_sum r]
    simp only [sumC]
    omega
theorem sumC_nonneg : ∀ l : List (Nat × PI), (∀ x, x ∈ l → 0 ≤ x.2.cols) → 0 ≤ sumC l
  | [], _ => by simp [sumC]
  | x :: l, h => by
    have h1 := h x (by simp)
    have h2 := sumC_nonneg l (fun y hy => h y (by simp [hy]))
    simp only [sumC]
    omega
theorem colsT_nonneg (T : BT PI) (h : NN T) : 0 ≤ colsT T := by rw [colsT_sum]; exact sumC_nonneg _ h
theorem nodesT_length : ∀ T : BT PI, (inorder T).length = nodesT T
  | .nil => rfl
  | .node b o a l r => by
    simp only [inorder, nodesT, List.length_append, List.length_cons]
    rw [nodesT_length l, nodesT_length r]
    omega
theorem NN.left {b o : Nat} {a : PI} {l r : BT PI} (h : NN (.node b o a l r)) : NN l := fun x hx => h x (by simp [inorder, hx])
theorem NN.right {b o : Nat} {a : PI} {l r : BT PI} (h : NN (.node b o a l r)) : NN r := fun x hx => h x (by simp [inorder, hx])
theorem NN.self {b o : Nat} {a : PI} {l r : BT PI} (h : NN (.node b o a l r)) : 0 ≤ a.cols := h (b, a) (by simp [inorder])

/-- no priority above its parent's -/
def rootLe : BT PI → Int → Prop
  | .nil, _ => True
  | .node _ _ a _ _, p => a.pr ≤ p
def heapT : BT PI → Prop
  | .nil => True
  | .node _ _ a l r => rootLe l a.pr ∧ rootLe r a.pr ∧ heapT l ∧ heapT r

/-! ### in the world -/
/-- n pairs (code, style), as cells -/
def pairs (n : Nat) (code sty : Nat → Int) : Array Value := ((List.range (2 * n)).map fun j => if j % 2 = 0 then Value.int .i32 (code (j / 2)) else .int .u32 (sty (j / 2))).toArray

/-- a slice of pairs: nil, or the whole of a block of element type ty -/
def CellsAt (w : World) (ty : TypeId) (v : Value) (nl : Bool) (n : Nat) (code sty : Nat → Int) : Prop :=
  (nl = true ∧ n = 0 ∧ v = .slice none 0 0) ∨ (nl = false ∧ ∃ g, v = .slice (some ⟨g, 0, none⟩) n n ∧ w.heap[g]? = some (.cells (pairs n code sty) ty (0, 0)))

def pieceCells (l r : Value) (a : PI) (s : Int) : Array Value := #[l, r, .int .u32 a.pr, .int .i64 s, a.cs, .int .i64 a.bl]

/-- the pieces lie in w, each size right -/
def TIn (w : World) : BT PI → Prop
  | .nil => True
  | .node b o a l r => o = 0 ∧ w.heap[b]? = some (.cells (pieceCells l.ptr r.ptr a (colsT l + a.cols + colsT r)) 103 (0, 0)) ∧ CellsAt w 87 a.cs a.nl a.n a.code a.sty ∧ CellsAt w 85 a.sn a.nl a.n a.code a.sty ∧ TIn w l ∧ TIn w r

/-- the blocks of pairs are as they were -/
def PairsKept (w w' : World) : Prop := ∀ (k : Nat) (c : Array Value) (t : TypeId) (fr : Nat × Nat), (t = 87 ∨ t = 85) → w.heap[k]? = some (Obj.cells c t fr) → w'.heap[k]? = w.heap[k]?

theorem CellsAt.kept {w w' : World} {ty : TypeId} {v : Value} {nl : Bool} {n : Nat} {code sty : Nat → Int} (h : CellsAt w ty v nl n code sty) (hp : PairsKept w w') (ht : ty = 87 ∨ ty = 85) : CellsAt w' ty v nl n code sty := by
  rcases h with h | ⟨h1, g, h2, h3⟩
  · exact .inl h
  · exact .inr ⟨h1, g, h2, by rw [hp g _ ty _ ht h3]; exact h3⟩
theorem TIn.kept {w w' : World} (hp : PairsKept w w') : ∀ {T : BT PI}, TIn w T → (∀ k, k ∈ blocks T → w'.heap[k]? = w.heap[k]?) → TIn w' T
  | .nil, _, _ => trivial
  | .node b o a l r, ⟨h0, h1, h2, h3, h4, h5⟩, hb =>
    ⟨h0, by rw [hb b (by simp [blocks, inorder])]; exact h1, h2.kept hp (.inl rfl), h3.kept hp (.inr rfl),
      TIn.kept hp h4 (fun k hk => hb k (by simp only [blocks, inorder, List.map_append, List.mem_append]; exact .inl hk)),
      TIn.kept hp h5 (fun k hk => hb k (by simp only [blocks, inorder, List.map_append, List.map_cons, List.mem_append, List.mem_cons]; exact .inr (.inr hk)))⟩
theorem TIn.tag {w : World} : ∀ {T : BT PI}, TIn w T → ∀ k, k ∈ blocks T → ∃ c, w.heap[k]? = some (.cells c 103 (0, 0))
  | .nil, _, k, hk => by simp [blocks, inorder] at hk
  | .node b o a l r, ⟨h0, h1, h2, h3, h4, h5⟩, k, hk => by
    simp only [blocks, inorder, List.map_append, List.map_cons, List.mem_append, List.mem_cons] at hk
    rcases hk with hk | hk | hk
    · exact TIn.tag h4 k hk
    · subst hk; exact ⟨_, h1⟩
    · exact TIn.tag h5 k hk

/-- all as it was but for the blocks of L -/
structure SameBut (w w' : World) (L : List Nat) : Prop where
  os : w'.os = w.os
  tape : w'.tape = w.tape
  output : w'.output = w.output
  size : w'.heap.size = w.heap.size
  block : ∀ k, k ∉ L → w'.heap[k]? = w.heap[k]?
theorem SameBut.refl (w : World) (L : List Nat) : SameBut w w L := ⟨rfl, rfl, rfl, rfl, fun _ _ => rfl⟩
theorem SameBut.mono {w w' : World} {L M : List Nat} (h : SameBut w w' L) (hs : ∀ k, k ∈ L → k ∈ M) : SameBut w w' M := ⟨h.os, h.tape, h.output, h.size, fun k hk => h.block k (fun c => hk (hs k c))⟩
theorem SameBut.trans {a b c : World} {L : List Nat} (h : SameBut a b L) (k : SameBut b c L) : SameBut a c L :=
  ⟨k.os.trans h.os, k.tape.trans h.tape, k.output.trans h.output, k.size.trans h.size, fun i hi => (k.block i hi).trans (h.block i hi)⟩
theorem SameBut.set {a b : World} {L : List Nat} (h : SameBut a b L) (p : Addr) (v : Value) (hp : p.block ∈ L) : SameBut a (b.setCell p v) L :=
  ⟨h.os, h.tape, h.output, by simpa [World.setCell] using h.size, fun k hk => by rw [Below.heap_setCell _ _ _ _ (by intro e; subst e; exact hk hp)]; exact h.block k hk⟩
/-- worlds that part in draws alone -/
def Like (w' w : World) : Prop := w'.heap = w.heap ∧ w'.os = w.os ∧ w'.output = w.output ∧ w'.tape = w.tape
theorem Like.refl (w : World) : Like w w := ⟨rfl, rfl, rfl, rfl⟩
theorem SameBut.like {a b c : World} {L : List Nat} (h : SameBut a b L) (k : Like c b) : SameBut a c L :=
  ⟨k.2.1.trans h.os, k.2.2.2.trans h.tape, k.2.2.1.trans h.output, by rw [k.1]; exact h.size, fun i hi => by rw [k.1]; exact h.block i hi⟩
/-- pairs are kept where only pieces turn -/
theorem SameBut.pairs {w w' : World} {L : List Nat} (h : SameBut w w' L) (hl : ∀ k, k ∈ L → ∃ c, w.heap[k]? = some (.cells c 103 (0, 0))) : PairsKept w w' := by
  intro k c t fr ht hk
  by_cases hm : k ∈ L
  · obtain ⟨c', hc⟩ := hl k hm
    rw [hc] at hk
    injection hk with hk
    injection hk with _ e _
    rcases ht with rfl | rfl <;> exact absurd e (by decide)
  · exact h.block k hm

end Go.Proofs.Qxb6601196a
