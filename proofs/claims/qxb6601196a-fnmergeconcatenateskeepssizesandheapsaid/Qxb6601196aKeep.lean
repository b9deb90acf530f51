import Derived.Test.Qxb6601196aFit
namespace Go.Proofs.Qxb6601196a
open Go.ChangeShapes Go.WideShapes Go.ChangeAt Go.RowKit Go.Deep

/-- block k of w is a row of the builder's own (of order, of snap) -/
def RowTag (w : World) (k : Nat) : Prop := ∃ (c : Array Value) (t : TypeId) (fr : Nat × Nat), (t = 37 ∨ t = 90) ∧ w.heap[k]? = some (Obj.cells c t fr)

/-- what building keeps: all below the builder; of what lies above it all but the builder's rows -/
structure Keep (w w' : World) (Bd : Nat) : Prop where
  os : w'.os = w.os
  tape : w'.tape = w.tape
  output : w'.output = w.output
  size : w.heap.size ≤ w'.heap.size
  block : ∀ k, k < w.heap.size → k ≠ Bd → (k < Bd ∨ ¬ RowTag w k) → w'.heap[k]? = w.heap[k]?
theorem Keep.refl (w : World) (Bd : Nat) : Keep w w Bd := ⟨rfl, rfl, rfl, Nat.le_refl _, fun _ _ _ _ => rfl⟩
theorem Keep.trans {a b c : World} {Bd : Nat} (h : Keep a b Bd) (k : Keep b c Bd) : Keep a c Bd where
  os := k.os.trans h.os
  tape := k.tape.trans h.tape
  output := k.output.trans h.output
  size := Nat.le_trans h.size k.size
  block := by
    intro i hi hne ht
    have e := h.block i hi hne ht
    have hs := h.size
    rw [k.block i (by omega) hne ?_, e]
    rcases ht with ht | ht
    · exact .inl ht
    · refine .inr ?_
      rintro ⟨c', t, fr, h1, h2⟩
      exact ht ⟨c', t, fr, h1, by rw [← e]; exact h2⟩
theorem Keep.drewN {a b : World} {Bd : Nat} (h : Keep a b Bd) (q : Nat) : Keep a (b.drewN q) Bd := ⟨h.os, h.tape, h.output, h.size, h.block⟩
theorem Keep.alloc {a b : World} {Bd : Nat} (h : Keep a b Bd) (o : Obj) : Keep a (b.alloc o) Bd :=
  h.trans ⟨rfl, rfl, rfl, by simp, fun k hk _ _ => Below.heap_alloc _ _ _ hk⟩
theorem Keep.setBd {a b : World} {Bd : Nat} (h : Keep a b Bd) (i : Nat) (v : Value) : Keep a (b.setCell ⟨Bd, i, none⟩ v) Bd :=
  h.trans ⟨rfl, rfl, rfl, by simp [World.setCell], fun k hk hne _ => heap_setCell_other _ _ _ _ hne⟩
theorem Keep.setRow {a b : World} {Bd : Nat} (h : Keep a b Bd) {g : Nat} (hg : Bd < g) (ht : RowTag b g) (i : Nat) (v : Value) : Keep a (b.setCell ⟨g, i, none⟩ v) Bd :=
  h.trans ⟨rfl, rfl, rfl, by simp [World.setCell], fun k hk hne hk2 => heap_setCell_other _ _ _ _ (by
    intro e
    simp only at e
    subst e
    rcases hk2 with hk2 | hk2
    · omega
    · exact hk2 ht)⟩
theorem Keep.grown {a b c : World} {Bd : Nat} (h : Keep a b Bd) {row : Option Nat} (hg : b.grownBy c row) (hr : ∀ k, row = some k → Bd < k ∧ RowTag b k) : Keep a c Bd :=
  h.trans ⟨hg.os, hg.tape, hg.output, hg.size, fun k hk hne hk2 => hg.block k hk (by
    intro e
    obtain ⟨h1, h2⟩ := hr k e.symm
    rcases hk2 with hk2 | hk2
    · omega
    · exact hk2 h2)⟩
theorem Keep.below {w w' : World} {Bd : Nat} (h : Keep w w' Bd) (hs : Bd ≤ w.heap.size) : ∀ k, k < Bd → w'.heap[k]? = w.heap[k]? := fun k hk => h.block k (by omega) (by omega) (.inl hk)
theorem Keep.tin {w w' : World} {Bd : Nat} (h : Keep w w' Bd) {c : Array Value} (hb : w.heap[Bd]? = some (.cells c 36 (0, 0))) {T : BT PI} (hT : TIn w T) : TIn w' T := by
  have key : ∀ (k : Nat) (c' : Array Value) (t : TypeId) (fr : Nat × Nat), (t = 87 ∨ t = 85 ∨ t = 103) → w.heap[k]? = some (Obj.cells c' t fr) → w'.heap[k]? = w.heap[k]? := by
    intro k c' t fr ht hk
    refine h.block k (Array.getElem?_eq_some_iff.1 hk).1 ?_ (.inr ?_)
    · intro e
      subst e
      rw [hb] at hk
      injection hk with hk
      injection hk with _ e _
      rcases ht with rfl | rfl | rfl <;> exact absurd e (by decide)
    · rintro ⟨c2, t2, f2, h1, h2⟩
      rw [h2] at hk
      injection hk with hk
      injection hk with _ e _
      rcases ht with rfl | rfl | rfl <;> rcases h1 with rfl | rfl <;> exact absurd e (by decide)
  refine hT.kept (fun k c' t fr ht hk => key k c' t fr (by rcases ht with h | h; exact .inl h; exact .inr (.inl h)) hk) ?_
  intro k hk
  obtain ⟨c', hk'⟩ := hT.tag k hk
  exact key k c' 103 _ (.inr (.inr rfl)) hk'
theorem Keep.cells {w w' : World} {Bd : Nat} (h : Keep w w' Bd) {c : Array Value} (hb : w.heap[Bd]? = some (.cells c 36 (0, 0))) {ty : TypeId} (ht : ty = 87 ∨ ty = 85) {v : Value} {nl : Bool} {n : Nat} {code sty : Nat → Int} (hc : CellsAt w ty v nl n code sty) : CellsAt w' ty v nl n code sty := by
  rcases hc with hc | ⟨h1, g, h2, h3⟩
  · exact .inl hc
  · refine .inr ⟨h1, g, h2, ?_⟩
    rw [h.block g (Array.getElem?_eq_some_iff.1 h3).1 ?_ (.inr ?_)]
    · exact h3
    · intro e
      subst e
      rw [hb] at h3
      injection h3 with h3
      injection h3 with _ e _
      rcases ht with rfl | rfl <;> exact absurd e (by decide)
    · rintro ⟨c2, t2, f2, q1, q2⟩
      rw [q2] at h3
      injection h3 with h3
      injection h3 with _ e _
      rcases ht with rfl | rfl <;> rcases q1 with rfl | rfl <;> exact absurd e (by decide)

/-! ### the builder -/
def flat : List (Int × Int × Value) → List Value
  | [] => []
  | x :: l => .int .u32 x.1 :: .int .i64 x.2.1 :: x.2.2 :: flat l
theorem flat_append : ∀ l m, flat (l ++ m) = flat l ++ flat m
  | [], m => rfl
  | x :: l, m => by simp only [List.cons_append, flat]; rw [flat_append l m]
theorem flat_length : ∀ l, (flat l).length = l.length * 3
  | [] => rfl
  | x :: l => by simp only [flat, List.length_cons]; rw [flat_length l]; omega

def bldCells (nd : Int) (ov sv : Value) : Array Value := #[.int .i64 nd, .bool true, ov, sv]
structure BSt (w : World) (Bd : Nat) (nd : Int) (ov sv : Value) (Ls : List Value) (Ss : List (Int × Int × Value)) : Prop where
  c : w.heap[Bd]? = some (.cells (bldCells nd ov sv) 36 (0, 0))
  o : w.ownsRow (Bd + 1) 37 1 ov Ls.length Ls
  s : w.ownsRow (Bd + 1) 90 3 sv Ss.length (flat Ss)
structure BAt (wr : World) (Bd : Nat) (nd : Int) (ov sv : Value) : Prop where
  c0 : wr.cell? ⟨Bd, 0, none⟩ = some (.int .i64 nd)
  c1 : wr.cell? ⟨Bd, 1, none⟩ = some (.bool true)
  c2 : wr.cell? ⟨Bd, 2, none⟩ = some ov
  c3 : wr.cell? ⟨Bd, 3, none⟩ = some sv
  fr : ∀ j, wr.frozen? ⟨Bd, j, none⟩ = false
theorem BSt.at {w : World} {Bd : Nat} {nd : Int} {ov sv : Value} {Ls : List Value} {Ss : List (Int × Int × Value)} (h : BSt w Bd nd ov sv Ls Ss) : BAt w Bd nd ov sv where
  c0 := by rw [cell_of_row w Bd 0 _ _ _ h.c]; rfl
  c1 := by rw [cell_of_row w Bd 1 _ _ _ h.c]; rfl
  c2 := by rw [cell_of_row w Bd 2 _ _ _ h.c]; rfl
  c3 := by rw [cell_of_row w Bd 3 _ _ _ h.c]; rfl
  fr := fun j => frozen_of_row w Bd j _ _ h.c
theorem BSt.lt {w : World} {Bd : Nat} {nd : Int} {ov sv : Value} {Ls : List Value} {Ss : List (Int × Int × Value)} (h : BSt w Bd nd ov sv Ls Ss) : Bd < w.heap.size := (Array.getElem?_eq_some_iff.1 h.c).1

/-- a row of the call's own has its type's tag -/
theorem own_tag {w : World} {base : Nat} {e : TypeId} {size n : Nat} {v : Value} {xs : List Value} (h : w.ownsRow base e size v n xs) : ∀ k, v.ownBlock = some k → base ≤ k ∧ ∃ c, w.heap[k]? = some (.cells c e (0, 0)) := by
  intro k hk
  rcases h.2 with ⟨rfl, _⟩ | ⟨g, cap, cur, rfl, hg, hh, _⟩
  · cases hk
  · injection hk with hk
    simp only at hk
    subst hk
    exact ⟨hg, cur, hh⟩
theorem own_shape {w : World} {base : Nat} {e : TypeId} {size n : Nat} {v : Value} {xs : List Value} (h : w.ownsRow base e size v n xs) : ∃ a c, v = .slice a n c := by
  rcases h.2 with ⟨h1, h2⟩ | ⟨g, cap, cur, hv, _⟩
  · subst h2; exact ⟨_, _, h1⟩
  · exact ⟨_, _, hv⟩
/-- a row stands where another block turns -/
theorem own_set {w : World} {base : Nat} {e : TypeId} {size n : Nat} {v : Value} {xs : List Value} (h : w.ownsRow base e size v n xs) {b : Nat} {c : Array Value} {t : TypeId} (hb : w.heap[b]? = some (.cells c t (0, 0))) (ht : t ≠ e) (i : Nat) (u : Value) : (w.setCell ⟨b, i, none⟩ u).ownsRow base e size v n xs := by
  refine h.kept (row := some b) ⟨rfl, rfl, rfl, by simp [World.setCell], fun k _ hk => heap_setCell_other _ _ _ _ (by intro e; subst e; exact hk rfl)⟩ (.inr ?_)
  intro he
  obtain ⟨_, c', hc'⟩ := own_tag h b he
  rw [hb] at hc'
  injection hc' with hc'
  injection hc' with _ e _
  exact ht e
theorem BSt.nodes {w : World} {Bd : Nat} {nd : Int} {ov sv : Value} {Ls : List Value} {Ss : List (Int × Int × Value)} (h : BSt w Bd nd ov sv Ls Ss) (x : Int) : BSt (w.setCell ⟨Bd, 0, none⟩ (.int .i64 x)) Bd x ov sv Ls Ss :=
  ⟨by rw [heap_setCell_same w Bd 0 _ _ _ h.c]; rfl, own_set h.o h.c (by decide) _ _, own_set h.s h.c (by decide) _ _⟩
theorem BSt.alloc {w : World} {Bd : Nat} {nd : Int} {ov sv : Value} {Ls : List Value} {Ss : List (Int × Int × Value)} (h : BSt w Bd nd ov sv Ls Ss) (o : Obj) : BSt (w.alloc o) Bd nd ov sv Ls Ss :=
  ⟨by rw [Below.heap_alloc _ _ _ h.lt]; exact h.c, World.ownsRow.alloc (h := h.o) o, World.ownsRow.alloc (h := h.s) o⟩
theorem BSt.drewN {w : World} {Bd : Nat} {nd : Int} {ov sv : Value} {Ls : List Value} {Ss : List (Int × Int × Value)} (h : BSt w Bd nd ov sv Ls Ss) (q : Nat) : BSt (w.drewN q) Bd nd ov sv Ls Ss := ⟨h.c, h.o, h.s⟩
/-- a store into a block that is none of the builder's -/
theorem BSt.other {w : World} {Bd : Nat} {nd : Int} {ov sv : Value} {Ls : List Value} {Ss : List (Int × Int × Value)} (h : BSt w Bd nd ov sv Ls Ss) {b : Nat} {c : Array Value} {t : TypeId} (hb : w.heap[b]? = some (.cells c t (0, 0))) (h1 : t ≠ 37) (h2 : t ≠ 90) (h3 : t ≠ 36) (i : Nat) (u : Value) : BSt (w.setCell ⟨b, i, none⟩ u) Bd nd ov sv Ls Ss :=
  ⟨by
    rw [heap_setCell_other _ _ _ _ (by
      intro e
      simp only at e
      subst e
      have := h.c
      rw [hb] at this
      injection this with this
      injection this with _ e _
      exact h3 e)]
    exact h.c, own_set h.o hb h1 _ _, own_set h.s hb h2 _ _⟩

theorem info37 : (Try.prog.info? 37).map (fun i => (i.zero, i.size, i.bytes)) = some (some (.pointer none), 1, 8) := by kernel_rfl
theorem info90 : (Try.prog.info? 90).map (fun i => (i.zero, i.size, i.bytes)) = some (some (.agg #[.int .u32 0, .int .i64 0, .slice none 0 0]), 3, 40) := by kernel_rfl

/-- 'b.order = append(b.order, nil)', the append -/
theorem app_order (w : World) (Bd : Nat) (nd : Int) (ov sv : Value) (Ls : List Value) (Ss : List (Int × Int × Value)) (h : BSt w Bd nd ov sv Ls Ss) (hl : Ls.length ≤ 20000) :
    ∃ a' c' w', (∀ ty, (Builtin.append_ #[33, 33] ty #[ov, .slice (some ⟨w.heap.size, 0, none⟩) 1 1]).run Try.prog (w.alloc (.cells #[.pointer none] 37)) = .ok (.slice a' (Ls.length + 1) c') w') ∧
      BSt (w'.setCell ⟨Bd, 2, none⟩ (.slice a' (Ls.length + 1) c')) Bd nd (.slice a' (Ls.length + 1) c') sv (Ls ++ [.pointer none]) Ss ∧ Keep w (w'.setCell ⟨Bd, 2, none⟩ (.slice a' (Ls.length + 1) c')) Bd ∧ BAt w' Bd nd ov sv := by
  obtain ⟨i, hi, hz⟩ := Option.map_eq_some_iff.1 info37
  simp only [Prod.mk.injEq] at hz
  have h' := h.alloc (.cells #[.pointer none] 37)
  obtain ⟨v', w', hr, ho, hg, _⟩ := run_append_own (P := Try.prog) (w.alloc (.cells #[.pointer none] 37)) (Bd + 1) 33 0 37 i (.pointer none) 1 8 Try.underlying33 hi hz.1 hz.2.1 hz.2.2 rfl (by decide) ov Ls.length Ls h'.o ⟨w.heap.size, 0, none⟩ 1 1 [.pointer none] rfl
    (by intro j u hj
        match j, hj with
        | 0, hj => simp at hj; subst hj; simp [Addr.add]) (by intro u hu; simp at hu; subst hu; rfl) (by unfold maxLen; omega) (by omega) (by have := h.lt; simp; omega)
  have hty : ∀ ty, (Builtin.append_ #[33, 33] ty #[ov, .slice (some ⟨w.heap.size, 0, none⟩) 1 1]).run Try.prog (w.alloc (.cells #[.pointer none] 37)) = .ok v' w' := fun ty => hr
  obtain ⟨a', c', rfl⟩ := own_shape ho
  have hrow : ∀ k, ov.ownBlock = some k → Bd < k ∧ RowTag (w.alloc (.cells #[.pointer none] 37)) k := fun k hk => by
    obtain ⟨h1, c, h2⟩ := own_tag h'.o k hk
    exact ⟨by omega, c, 37, _, .inl rfl, h2⟩
  have hbd : w'.heap[Bd]? = some (.cells (bldCells nd ov sv) 36 (0, 0)) := by
    rw [hg.block Bd h'.lt (by intro e; have := (hrow Bd e.symm).1; omega)]; exact h'.c
  have hsv : w'.ownsRow (Bd + 1) 90 3 sv Ss.length (flat Ss) := by
    refine h'.s.kept hg ?_
    cases hsb : sv.ownBlock with
    | none => exact .inl rfl
    | some k =>
      refine .inr ?_
      intro e
      obtain ⟨_, c1, q1⟩ := own_tag h'.s k hsb
      obtain ⟨_, c2, q2⟩ := own_tag h'.o k e.symm
      rw [q1] at q2
      injection q2 with q2
      injection q2 with _ e _
      exact absurd e (by decide)
  have hat : BAt w' Bd nd ov sv := ⟨by rw [cell_of_row w' Bd 0 _ _ _ hbd]; rfl, by rw [cell_of_row w' Bd 1 _ _ _ hbd]; rfl, by rw [cell_of_row w' Bd 2 _ _ _ hbd]; rfl, by rw [cell_of_row w' Bd 3 _ _ _ hbd]; rfl, fun j => frozen_of_row w' Bd j _ _ hbd⟩
  refine ⟨a', c', w', hty, ⟨?_, ?_, own_set hsv hbd (by decide) _ _⟩, (((Keep.refl w Bd).alloc _).grown hg hrow).setBd _ _, hat⟩
  · rw [heap_setCell_same w' Bd 2 _ _ _ hbd]; rfl
  · rw [show (Ls ++ [Value.pointer none]).length = Ls.length + 1 by simp]
    exact own_set ho hbd (by decide) _ _

/-- 'b.snap = append(b.snap, ..)', the append -/
theorem app_snap (w : World) (Bd : Nat) (nd : Int) (ov sv : Value) (Ls : List Value) (Ss : List (Int × Int × Value)) (h : BSt w Bd nd ov sv Ls Ss) (hl : Ss.length ≤ 20000) (x y : Int) (sx : Option Addr) (n sc : Nat) :
    ∃ a' c' w', (∀ ty, (Builtin.append_ #[34, 34] ty #[sv, .slice (some ⟨w.heap.size, 0, none⟩) 1 1]).run Try.prog (w.alloc (.cells #[.int .u32 x, .int .i64 y, .slice sx n sc] 90)) = .ok (.slice a' (Ss.length + 1) c') w') ∧
      BSt (w'.setCell ⟨Bd, 3, none⟩ (.slice a' (Ss.length + 1) c')) Bd nd ov (.slice a' (Ss.length + 1) c') Ls (Ss ++ [(x, y, .slice sx n sc)]) ∧ Keep w (w'.setCell ⟨Bd, 3, none⟩ (.slice a' (Ss.length + 1) c')) Bd ∧ BAt w' Bd nd ov sv := by
  obtain ⟨i, hi, hz⟩ := Option.map_eq_some_iff.1 info90
  simp only [Prod.mk.injEq] at hz
  have h' := h.alloc (.cells #[.int .u32 x, .int .i64 y, .slice sx n sc] 90)
  obtain ⟨v', w', hr, ho, hg, _⟩ := run_append_own (P := Try.prog) (w.alloc (.cells #[.int .u32 x, .int .i64 y, .slice sx n sc] 90)) (Bd + 1) 34 0 90 i _ 3 40 Try.underlying34 hi hz.1 hz.2.1 hz.2.2 rfl (by decide) sv Ss.length (flat Ss) h'.s ⟨w.heap.size, 0, none⟩ 1 1 [.int .u32 x, .int .i64 y, .slice sx n sc] rfl
    (by intro j u hj
        match j, hj with
        | 0, hj => simp at hj; subst hj; simp [Addr.add]
        | 1, hj => simp at hj; subst hj; simp [Addr.add]
        | 2, hj => simp at hj; subst hj; simp [Addr.add]) (by intro u hu; simp at hu; rcases hu with rfl | rfl | rfl <;> rfl) (by unfold maxLen; omega) (by omega) (by have := h.lt; simp; omega)
  have hty : ∀ ty, (Builtin.append_ #[34, 34] ty #[sv, .slice (some ⟨w.heap.size, 0, none⟩) 1 1]).run Try.prog (w.alloc (.cells #[.int .u32 x, .int .i64 y, .slice sx n sc] 90)) = .ok v' w' := fun ty => hr
  obtain ⟨a', c', rfl⟩ := own_shape ho
  have hrow : ∀ k, sv.ownBlock = some k → Bd < k ∧ RowTag (w.alloc (.cells #[.int .u32 x, .int .i64 y, .slice sx n sc] 90)) k := fun k hk => by
    obtain ⟨h1, c, h2⟩ := own_tag h'.s k hk
    exact ⟨by omega, c, 90, _, .inr rfl, h2⟩
  have hbd : w'.heap[Bd]? = some (.cells (bldCells nd ov sv) 36 (0, 0)) := by
    rw [hg.block Bd h'.lt (by intro e; have := (hrow Bd e.symm).1; omega)]; exact h'.c
  have hov : w'.ownsRow (Bd + 1) 37 1 ov Ls.length Ls := by
    refine h'.o.kept hg ?_
    cases hsb : ov.ownBlock with
    | none => exact .inl rfl
    | some k =>
      refine .inr ?_
      intro e
      obtain ⟨_, c1, q1⟩ := own_tag h'.o k hsb
      obtain ⟨_, c2, q2⟩ := own_tag h'.s k e.symm
      rw [q1] at q2
      injection q2 with q2
      injection q2 with _ e _
      exact absurd e (by decide)
  have hat : BAt w' Bd nd ov sv := ⟨by rw [cell_of_row w' Bd 0 _ _ _ hbd]; rfl, by rw [cell_of_row w' Bd 1 _ _ _ hbd]; rfl, by rw [cell_of_row w' Bd 2 _ _ _ hbd]; rfl, by rw [cell_of_row w' Bd 3 _ _ _ hbd]; rfl, fun j => frozen_of_row w' Bd j _ _ hbd⟩
  refine ⟨a', c', w', hty, ⟨?_, own_set hov hbd (by decide) _ _, ?_⟩, (((Keep.refl w Bd).alloc _).grown hg hrow).setBd _ _, hat⟩
  · rw [heap_setCell_same w' Bd 3 _ _ _ hbd]; rfl
  · rw [show (Ss ++ [(x, y, Value.slice sx n sc)]).length = Ss.length + 1 by simp, flat_append]
    exact own_set ho hbd (by decide) _ _

end Go.Proofs.Qxb6601196a
