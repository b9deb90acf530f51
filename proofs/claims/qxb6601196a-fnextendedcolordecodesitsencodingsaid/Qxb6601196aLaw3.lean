import Derived.Test.Qxb6601196aInts
import Derived.Deep.Cut
import Derived.Deep.CutRange
namespace Go.Proofs.Qxb6601196a
open Go.ChangeShapes Go.WideShapes Go.ChangeAt Go.RowKit

theorem law3_bytes_yes (t : Bool) (i r g b : Int) (a : Option Addr) (n c : Nat) (w : World) (h : n ≤ 1048576) :
    Calls Try.prog 9 #[.bool t, .int .u8 i, .int .u8 r, .int .u8 g, .int .u8 b, .slice a n c] w fun e w' => e = .returned (.bool true) ∧ w' = w := by
  go_enter Try.func9, Try.ntmps9
  go_wp2
  go_ret
  exact ⟨rfl, rfl⟩
theorem law3_bytes_no (t : Bool) (i r g b : Int) (a : Option Addr) (n c : Nat) (w : World) (hn : n ≤ maxLen) (h : 1048576 < n) :
    Calls Try.prog 9 #[.bool t, .int .u8 i, .int .u8 r, .int .u8 g, .int .u8 b, .slice a n c] w fun e w' => e = .returned (.bool false) ∧ w' = w := by
  unfold maxLen at hn
  go_enter Try.func9, Try.ntmps9
  go_wp2
  go_ret
  exact ⟨rfl, rfl⟩

theorem law3_guard (t : Bool) (i r g b : Int) (a : Option Addr) (n c : Nat) (w : World) (hn : n ≤ maxLen) (h : 131072 < n) :
    Calls Try.prog 3 #[.bool t, .int .u8 i, .int .u8 r, .int .u8 g, .int .u8 b, .slice a n c] w fun e w' => e = .returned (.bool true) ∧ Below w.heap.size w w' := by
  by_cases h0 : 1048576 < n
  · go_enter Try.func3, Try.ntmps3
    go_wp2_with (go_at_call 9; refine (law3_bytes_no t i r g b a n c _ hn h0).mono ?_; rintro e w' ⟨rfl, rfl⟩)
    go_ret
    exact ⟨rfl, Below.refl _ _⟩
  · have h0' : n ≤ 1048576 := by omega
    clear h0 hn
    go_enter Try.func3, Try.ntmps3
    go_wp2_with (go_at_call 9; refine (law3_bytes_yes t i r g b a n c _ h0').mono ?_; rintro e w' ⟨rfl, rfl⟩)
    go_ret
    exact ⟨rfl, Below.refl _ _⟩

/-- the five cells of a colour, at the head of block B -/
structure ColAt (w : World) (B : Nat) (c : Col) : Prop where
  c0 : w.cell? ⟨B, 0, none⟩ = some (.int .u8 c.1)
  c1 : w.cell? ⟨B, 1, none⟩ = some (.int .u8 c.2.1)
  c2 : w.cell? ⟨B, 2, none⟩ = some (.int .u8 c.2.2.1)
  c3 : w.cell? ⟨B, 3, none⟩ = some (.int .u8 c.2.2.2.1)
  c4 : w.cell? ⟨B, 4, none⟩ = some (.int .u8 c.2.2.2.2)
theorem ColAt.other {w : World} {B : Nat} {c : Col} (h : ColAt w B c) (a : Addr) (v : Value) (ha : a.block ≠ B) : ColAt (w.setCell a v) B c where
  c0 := by rw [World.cell?_setCell_other _ _ _ _ (by intro e; rw [e] at ha; exact ha rfl)]; exact h.c0
  c1 := by rw [World.cell?_setCell_other _ _ _ _ (by intro e; rw [e] at ha; exact ha rfl)]; exact h.c1
  c2 := by rw [World.cell?_setCell_other _ _ _ _ (by intro e; rw [e] at ha; exact ha rfl)]; exact h.c2
  c3 := by rw [World.cell?_setCell_other _ _ _ _ (by intro e; rw [e] at ha; exact ha rfl)]; exact h.c3
  c4 := by rw [World.cell?_setCell_other _ _ _ _ (by intro e; rw [e] at ha; exact ha rfl)]; exact h.c4
theorem ColAt.later {w w' : World} {B B' : Nat} {c : Col} (h : ColAt w B c) (hb : Below B' w w') (hB : B < B') : ColAt w' B c where
  c0 := by rw [hb.cell (by exact hB)]; exact h.c0
  c1 := by rw [hb.cell (by exact hB)]; exact h.c1
  c2 := by rw [hb.cell (by exact hB)]; exact h.c2
  c3 := by rw [hb.cell (by exact hB)]; exact h.c3
  c4 := by rw [hb.cell (by exact hB)]; exact h.c4
/-- five stores, one a cell -/
def setCol (w : World) (B : Nat) (c : Col) : World :=
  ((((w.setCell ⟨B, 0, none⟩ (.int .u8 c.1)).setCell ⟨B, 1, none⟩ (.int .u8 c.2.1)).setCell ⟨B, 2, none⟩ (.int .u8 c.2.2.1)).setCell ⟨B, 3, none⟩ (.int .u8 c.2.2.2.1)).setCell ⟨B, 4, none⟩ (.int .u8 c.2.2.2.2)
theorem ne_off (B i j : Nat) (h : i ≠ j) : (⟨B, i, none⟩ : Addr) ≠ ⟨B, j, none⟩ := by intro e; injection e with _ e; exact h e
theorem ColAt.set {w : World} {B : Nat} {c : Col} (h : ColAt w B c) (d : Col) : ColAt (setCol w B d) B d := by
  unfold setCol
  refine ⟨?_, ?_, ?_, ?_, ?_⟩
  · rw [World.cell?_setCell_other _ _ _ _ (ne_off B 4 0 (by decide)), World.cell?_setCell_other _ _ _ _ (ne_off B 3 0 (by decide)), World.cell?_setCell_other _ _ _ _ (ne_off B 2 0 (by decide)), World.cell?_setCell_other _ _ _ _ (ne_off B 1 0 (by decide))]
    exact World.cell?_setCell_same _ _ _ h.c0
  · rw [World.cell?_setCell_other _ _ _ _ (ne_off B 4 1 (by decide)), World.cell?_setCell_other _ _ _ _ (ne_off B 3 1 (by decide)), World.cell?_setCell_other _ _ _ _ (ne_off B 2 1 (by decide))]
    exact World.cell?_setCell_same _ _ _ (u := .int .u8 c.2.1) (by rw [World.cell?_setCell_other _ _ _ _ (ne_off B 0 1 (by decide))]; exact h.c1)
  · rw [World.cell?_setCell_other _ _ _ _ (ne_off B 4 2 (by decide)), World.cell?_setCell_other _ _ _ _ (ne_off B 3 2 (by decide))]
    exact World.cell?_setCell_same _ _ _ (u := .int .u8 c.2.2.1) (by rw [World.cell?_setCell_other _ _ _ _ (ne_off B 1 2 (by decide)), World.cell?_setCell_other _ _ _ _ (ne_off B 0 2 (by decide))]; exact h.c2)
  · rw [World.cell?_setCell_other _ _ _ _ (ne_off B 4 3 (by decide))]
    exact World.cell?_setCell_same _ _ _ (u := .int .u8 c.2.2.2.1) (by rw [World.cell?_setCell_other _ _ _ _ (ne_off B 2 3 (by decide)), World.cell?_setCell_other _ _ _ _ (ne_off B 1 3 (by decide)), World.cell?_setCell_other _ _ _ _ (ne_off B 0 3 (by decide))]; exact h.c3)
  · exact World.cell?_setCell_same _ _ _ (u := .int .u8 c.2.2.2.2) (by rw [World.cell?_setCell_other _ _ _ _ (ne_off B 3 4 (by decide)), World.cell?_setCell_other _ _ _ _ (ne_off B 2 4 (by decide)), World.cell?_setCell_other _ _ _ _ (ne_off B 1 4 (by decide)), World.cell?_setCell_other _ _ _ _ (ne_off B 0 4 (by decide))]; exact h.c4)
theorem ColAt.new (w : World) : ColAt (w.alloc (.cells #[.int .u8 0, .int .u8 0, .int .u8 0, .int .u8 0, .int .u8 0] 27)) w.heap.size Col.zero where
  c0 := by simp [Col.zero]
  c1 := by simp [Col.zero]
  c2 := by simp [Col.zero]
  c3 := by simp [Col.zero]
  c4 := by simp [Col.zero]
theorem below_setCol {B B' : Nat} {w w' : World} (h : Below B w w') (hB : B ≤ B') (c : Col) : Below B w (setCol w' B' c) :=
  ((((h.setCell (p := ⟨B', 0, none⟩) hB _).setCell (p := ⟨B', 1, none⟩) hB _).setCell (p := ⟨B', 2, none⟩) hB _).setCell (p := ⟨B', 3, none⟩) hB _).setCell (p := ⟨B', 4, none⟩) hB _
theorem irow_setCol {w : World} {b n : Nat} {f : Nat → Int} (h : IRow w b n f) {B : Nat} (hB : b ≠ B) (c : Col) : IRow (setCol w B c) b n f :=
  ((((World.rowIs.setOther h (a := ⟨B, 0, none⟩) hB _).setOther (a := ⟨B, 1, none⟩) hB _).setOther (a := ⟨B, 2, none⟩) hB _).setOther (a := ⟨B, 3, none⟩) hB _).setOther (a := ⟨B, 4, none⟩) hB _
theorem size_setCol (w : World) (B : Nat) (c : Col) : (setCol w B c).heap.size = w.heap.size := by simp [setCol, World.setCell]

/-- what holds behind 'var want' and 'codes = make(..)': block B1 the colour, block B1 + 1 the codes -/
structure Begun (w1 W2 : World) (N : Nat) : Prop where
  want : ColAt W2 w1.heap.size Col.zero
  row : IRow W2 (w1.heap.size + 1) N (fun _ => 0)
  fr : ∀ j, W2.frozen? ⟨w1.heap.size, j, none⟩ = false
  old : Below w1.heap.size w1 W2
  size : W2.heap.size = w1.heap.size + 2
theorem begun (w1 : World) (N : Nat) : Begun w1 ((w1.alloc (.cells #[.int .u8 0, .int .u8 0, .int .u8 0, .int .u8 0, .int .u8 0] 27)).alloc (.cells (madeCells #[.int .i64 0] N) 3)) N where
  want := (ColAt.new w1).later (((Below.refl (w1.heap.size + 1) _).alloc (by simp) _)) (by omega)
  row := by
    have := World.rowIs_made (w1.alloc (.cells #[.int .u8 0, .int .u8 0, .int .u8 0, .int .u8 0, .int .u8 0] 27)) (.int .i64 0) N 3
    have e : (w1.alloc (.cells #[.int .u8 0, .int .u8 0, .int .u8 0, .int .u8 0, .int .u8 0] 27)).heap.size = w1.heap.size + 1 := by simp
    rw [e] at this
    exact this
  fr := by intro j; simp
  old := ((Below.refl _ _).alloc (Nat.le_refl _) _).alloc (by simp) _
  size := by simp

/-- the loop's relation: the codes begin as they were written; the colour stands -/
structure Going (w1 wr : World) (N m : Nat) (head : Nat → Int) (c : Col) : Prop where
  row : ∃ G, IRow wr (w1.heap.size + 1) N G ∧ ∀ j, j < m → G j = head j
  want : ColAt wr w1.heap.size c
  old : Below w1.heap.size w1 wr
  size : w1.heap.size + 2 ≤ wr.heap.size

theorem going_true {w1 W2 : World} {n : Nat} (h : Begun w1 W2 (4 + n)) (r g b : Int) (head : Nat → Int) (h0 : head 0 = 2) (h1 : head 1 = r) (h2 : head 2 = g) (h3 : head 3 = b) :
    Going w1 (setCol ((((W2.setCell ⟨w1.heap.size + 1, 0, none⟩ (.int .i64 2)).setCell ⟨w1.heap.size + 1, 1, none⟩ (.int .i64 r)).setCell ⟨w1.heap.size + 1, 2, none⟩ (.int .i64 g)).setCell ⟨w1.heap.size + 1, 3, none⟩ (.int .i64 b)) w1.heap.size (2, 0, r, g, b)) (4 + n) 4 head (2, 0, r, g, b) where
  row := by
    refine ⟨_, irow_setCol ((((h.row.set 0 2).set 1 r).set 2 g).set 3 b) (by omega) _, ?_⟩
    intro j hj
    match j, hj with
    | 0, _ => rw [h0]; rfl
    | 1, _ => rw [h1]; rfl
    | 2, _ => rw [h2]; rfl
    | 3, _ => rw [h3]; rfl
  want := ((((h.want.other _ _ (by simp)).other _ _ (by simp)).other _ _ (by simp)).other _ _ (by simp)).set _
  old := below_setCol ((((h.old.setCell (by simp) _).setCell (by simp) _).setCell (by simp) _).setCell (by simp) _) (Nat.le_refl _) _
  size := by
    rw [size_setCol]
    simp only [World.setCell, Array.size_modify]
    rw [h.size]
    exact Nat.le_refl _

theorem Going.set {w1 wr : World} {N m : Nat} {head : Nat → Int} {c : Col} (h : Going w1 wr N m head c) (j : Nat) (hj : m ≤ j) (x : Int) :
    Going w1 (wr.setCell ⟨w1.heap.size + 1, j, none⟩ (.int .i64 x)) N m head c where
  row := by
    obtain ⟨G, h1, h2⟩ := h.row
    refine ⟨_, h1.set j x, ?_⟩
    intro i hi
    simp only [put]
    rw [if_neg (by omega)]
    exact h2 i hi
  want := h.want.other _ _ (by simp)
  old := h.old.setCell (by simp) _
  size := by simpa [World.setCell] using h.size

theorem ext_true (G : Nat → Int) (n : Nat) (r g b : Int) (hr : 0 ≤ r ∧ r ≤ 255) (hg : 0 ≤ g ∧ g ≤ 255) (hb : 0 ≤ b ∧ b ≤ 255) (h0 : G 0 = 2) (h1 : G 1 = r) (h2 : G 2 = g) (h3 : G 3 = b) : ext G (4 + n) = ((2, 0, r, g, b), 4) := by
  unfold ext
  rw [if_neg (by omega), if_neg (by omega), if_pos h0, if_neg (by omega), if_neg (by omega), h1, h2, h3, show r % 256 = r by omega, show g % 256 = g by omega, show b % 256 = b by omega]

set_option maxHeartbeats 1000000 in
theorem law3_true (i r g b : Int) (a : Option Addr) (n c : Nat) (f : Nat → Int) (w : World) (hr : 0 ≤ r ∧ r ≤ 255) (hg : 0 ≤ g ∧ g ≤ 255) (hb : 0 ≤ b ∧ b ≤ 255) (hI : IsI w a n c f) (hn : n ≤ 131072) :
    Calls Try.prog 3 #[.bool true, .int .u8 i, .int .u8 r, .int .u8 g, .int .u8 b, .slice a n c] w fun e w' => e = .returned (.bool true) ∧ Below w.heap.size w w' := by
  have HI := hide hI
  clear hI
  have hmk : ∀ w, (Instr.makeSlice 22 (.int .i64 (4 + (n : Int))) (.int .i64 (4 + (n : Int)))).run Try.prog w = .ok (.slice (some ⟨w.heap.size, 0, none⟩) (4 + n) (4 + n)) (w.alloc (.cells (madeCells #[.int .i64 0] (4 + n)) 3)) := by
    have := made3 (4 + n) (by omega)
    intro w
    have e : ((4 + n : Nat) : Int) = 4 + (n : Int) := by omega
    rw [← e]; exact this w
  go_enter Try.func3, Try.ntmps3
  go_wp2_with (go_at_call 9; refine (law3_bytes_yes true i r g b a n c _ (by omega)).mono ?_; rintro e w' ⟨rfl, rfl⟩)
  refine (clone_any a n c f _ (by omega) HI.out).mono ?_
  rintro e w1 ⟨a1, rfl, ho, hb1⟩
  have HO := hide ho
  have HB1 := hide hb1
  clear ho hb1
  go_upto_region 11 with fail
  have hbg := begun w1 (4 + n)
  generalize ((w1.alloc (.cells #[.int .u8 0, .int .u8 0, .int .u8 0, .int .u8 0, .int .u8 0] 27)).alloc (.cells (madeCells #[.int .i64 0] (4 + n)) 3)) = W2 at *
  clear hmk
  have HBG := hide hbg
  have x0 := hbg.row.cell (j := 0) (by omega)
  have x1 := hbg.row.cell (j := 1) (by omega)
  have x2 := hbg.row.cell (j := 2) (by omega)
  have x3 := hbg.row.cell (j := 3) (by omega)
  have xf := fun j => hbg.row.free j
  have y0 := hbg.want.c0
  have y1 := hbg.want.c1
  have y2 := hbg.want.c2
  have y3 := hbg.want.c3
  have y4 := hbg.want.c4
  have yf := hbg.fr
  clear hbg
  go_wp2_with fail
  clear x0 x1 x2 x3 xf y0 y1 y2 y3 y4 yf
  obtain ⟨head, e0, e1, e2, e3⟩ : ∃ head : Nat → Int, head 0 = 2 ∧ head 1 = r ∧ head 2 = g ∧ head 3 = b := ⟨fun j => if j = 0 then 2 else if j = 1 then r else if j = 2 then g else b, rfl, rfl, rfl, rfl⟩
  have HGO := hide (going_true HBG.out r g b head e0 e1 e2 e3)
  have E0 := hide e0
  have E1 := hide e1
  have E2 := hide e2
  have E3 := hide e3
  clear e0 e1 e2 e3
  go_loopw [16] (fun q wr => ∃ k : Nat, k ≤ n ∧ q = .int .i64 k ∧ Going w1 wr (4 + n) 4 head (2, 0, r, g, b)) (fun q _ => n - (intOf q).toNat)
  case atStart => exact ⟨0, Nat.zero_le _, rfl, HGO.out⟩
  case round =>
    clear HGO HBG
    obtain ⟨k, hk, rfl, hgo⟩ := hrel
    by_cases hlt : k < n
    · obtain ⟨bt, rfl, hbt, hrow⟩ := HO.out.some (by omega)
      obtain ⟨G, hG, _⟩ := hgo.row
      have hcr : wr.cell? ⟨bt, k, none⟩ = some (.int .i64 (f k)) := by rw [hgo.old.cell (by exact hbt)]; exact hrow.cell hlt
      have hck := hG.cell (j := 4 + k) (by omega)
      have hfk := hG.free (4 + k)
      have HG := hide (hgo.set (4 + k) (by omega) (f k))
      clear hgo hrow hG
      go_wp2
      go_roundw
      case rel => exact ⟨k + 1, by omega, by go_num, HG.out⟩
      case measure => simp [intOf]; omega
    · obtain ⟨G, hG, hh⟩ := hgo.row
      have hx := zzext_any (some ⟨w1.heap.size + 1, 0, none⟩) (4 + n) (4 + n) G wr (by omega) (fun _ => ⟨_, _, rfl, fun k hk => by rw [Nat.zero_add]; exact hG.cell hk⟩)
      rw [ext_true G n r g b hr hg hb (by rw [hh 0 (by omega)]; exact E0.out) (by rw [hh 1 (by omega)]; exact E1.out) (by rw [hh 2 (by omega)]; exact E2.out) (by rw [hh 3 (by omega)]; exact E3.out)] at hx
      simp only [colV] at hx
      have HX := hide hx
      have HGO := hide hgo
      clear hx hG hh hgo
      go_wp2_with fail
      refine HX.out.mono ?_
      rintro e w4 ⟨rfl, hb4⟩
      have hw := HGO.out.want.later hb4 (by have := HGO.out.size; omega)
      have hz4 : w1.heap.size < w4.heap.size := by have := HGO.out.size; have := hb4.size; omega
      have HB4 := hide (HGO.out.old.trans (hb4.mono (by have := HGO.out.old.size; omega)))
      have y0 := hw.c0
      have y1 := hw.c1
      have y2 := hw.c2
      have y3 := hw.c3
      have y4 := hw.c4
      clear hw hb4
      go_wp2
      go_ret
      exact ⟨rfl, (HB1.out.trans (HB4.out.mono HB1.out.size)).alloc (by have := HB1.out.size; omega) _⟩

theorem going_false {w1 W2 : World} {n : Nat} (h : Begun w1 W2 (2 + n)) (i : Int) (head : Nat → Int) (h0 : head 0 = 5) (h1 : head 1 = i) :
    Going w1 (setCol ((W2.setCell ⟨w1.heap.size + 1, 0, none⟩ (.int .i64 5)).setCell ⟨w1.heap.size + 1, 1, none⟩ (.int .i64 i)) w1.heap.size (1, i, 0, 0, 0)) (2 + n) 2 head (1, i, 0, 0, 0) where
  row := by
    refine ⟨_, irow_setCol ((h.row.set 0 5).set 1 i) (by omega) _, ?_⟩
    intro j hj
    match j, hj with
    | 0, _ => rw [h0]; rfl
    | 1, _ => rw [h1]; rfl
  want := ((h.want.other _ _ (by simp)).other _ _ (by simp)).set _
  old := below_setCol ((h.old.setCell (by simp) _).setCell (by simp) _) (Nat.le_refl _) _
  size := by
    rw [size_setCol]
    simp only [World.setCell, Array.size_modify]
    rw [h.size]
    exact Nat.le_refl _

theorem ext_false (G : Nat → Int) (n : Nat) (i : Int) (hi : 0 ≤ i ∧ i ≤ 255) (h0 : G 0 = 5) (h1 : G 1 = i) : ext G (2 + n) = ((1, i, 0, 0, 0), 2) := by
  unfold ext
  rw [if_neg (by omega), if_pos h0, if_neg (by omega), if_neg (by omega), h1, show i % 256 = i by omega]

set_option maxHeartbeats 1000000 in
theorem law3_false (i r g b : Int) (a : Option Addr) (n c : Nat) (f : Nat → Int) (w : World) (hi : 0 ≤ i ∧ i ≤ 255) (hI : IsI w a n c f) (hn : n ≤ 131072) :
    Calls Try.prog 3 #[.bool false, .int .u8 i, .int .u8 r, .int .u8 g, .int .u8 b, .slice a n c] w fun e w' => e = .returned (.bool true) ∧ Below w.heap.size w w' := by
  have HI := hide hI
  clear hI
  have hmk : ∀ w, (Instr.makeSlice 22 (.int .i64 (2 + (n : Int))) (.int .i64 (2 + (n : Int)))).run Try.prog w = .ok (.slice (some ⟨w.heap.size, 0, none⟩) (2 + n) (2 + n)) (w.alloc (.cells (madeCells #[.int .i64 0] (2 + n)) 3)) := by
    have := made3 (2 + n) (by omega)
    intro w
    have e : ((2 + n : Nat) : Int) = 2 + (n : Int) := by omega
    rw [← e]; exact this w
  go_enter Try.func3, Try.ntmps3
  go_wp2_with (go_at_call 9; refine (law3_bytes_yes false i r g b a n c _ (by omega)).mono ?_; rintro e w' ⟨rfl, rfl⟩)
  refine (clone_any a n c f _ (by omega) HI.out).mono ?_
  rintro e w1 ⟨a1, rfl, ho, hb1⟩
  have HO := hide ho
  have HB1 := hide hb1
  clear ho hb1
  go_upto_region 18 with fail
  have hbg := begun w1 (2 + n)
  generalize ((w1.alloc (.cells #[.int .u8 0, .int .u8 0, .int .u8 0, .int .u8 0, .int .u8 0] 27)).alloc (.cells (madeCells #[.int .i64 0] (2 + n)) 3)) = W2 at *
  clear hmk
  have HBG := hide hbg
  have x0 := hbg.row.cell (j := 0) (by omega)
  have x1 := hbg.row.cell (j := 1) (by omega)
  have xf := fun j => hbg.row.free j
  have y0 := hbg.want.c0
  have y1 := hbg.want.c1
  have y2 := hbg.want.c2
  have y3 := hbg.want.c3
  have y4 := hbg.want.c4
  have yf := hbg.fr
  clear hbg
  go_wp2_with fail
  clear x0 x1 xf y0 y1 y2 y3 y4 yf
  obtain ⟨head, e0, e1⟩ : ∃ head : Nat → Int, head 0 = 5 ∧ head 1 = i := ⟨fun j => if j = 0 then 5 else i, rfl, rfl⟩
  have HGO := hide (going_false HBG.out i head e0 e1)
  have E0 := hide e0
  have E1 := hide e1
  clear e0 e1
  go_loopw [16] (fun q wr => ∃ k : Nat, k ≤ n ∧ q = .int .i64 k ∧ Going w1 wr (2 + n) 2 head (1, i, 0, 0, 0)) (fun q _ => n - (intOf q).toNat)
  case atStart => exact ⟨0, Nat.zero_le _, rfl, HGO.out⟩
  case round =>
    clear HGO HBG
    obtain ⟨k, hk, rfl, hgo⟩ := hrel
    by_cases hlt : k < n
    · obtain ⟨bt, rfl, hbt, hrow⟩ := HO.out.some (by omega)
      obtain ⟨G, hG, _⟩ := hgo.row
      have hcr : wr.cell? ⟨bt, k, none⟩ = some (.int .i64 (f k)) := by rw [hgo.old.cell (by exact hbt)]; exact hrow.cell hlt
      have hck := hG.cell (j := 2 + k) (by omega)
      have hfk := hG.free (2 + k)
      have HG := hide (hgo.set (2 + k) (by omega) (f k))
      clear hgo hrow hG
      go_wp2
      go_roundw
      case rel => exact ⟨k + 1, by omega, by go_num, HG.out⟩
      case measure => simp [intOf]; omega
    · obtain ⟨G, hG, hh⟩ := hgo.row
      have hx := zzext_any (some ⟨w1.heap.size + 1, 0, none⟩) (2 + n) (2 + n) G wr (by omega) (fun _ => ⟨_, _, rfl, fun k hk => by rw [Nat.zero_add]; exact hG.cell hk⟩)
      rw [ext_false G n i hi (by rw [hh 0 (by omega)]; exact E0.out) (by rw [hh 1 (by omega)]; exact E1.out)] at hx
      simp only [colV] at hx
      have HX := hide hx
      have HGO := hide hgo
      clear hx hG hh hgo
      go_wp2_with fail
      refine HX.out.mono ?_
      rintro e w4 ⟨rfl, hb4⟩
      have hw := HGO.out.want.later hb4 (by have := HGO.out.size; omega)
      have hz4 : w1.heap.size < w4.heap.size := by have := HGO.out.size; have := hb4.size; omega
      have HB4 := hide (HGO.out.old.trans (hb4.mono (by have := HGO.out.old.size; omega)))
      have y0 := hw.c0
      have y1 := hw.c1
      have y2 := hw.c2
      have y3 := hw.c3
      have y4 := hw.c4
      clear hw hb4
      go_wp2
      go_ret
      exact ⟨rfl, (HB1.out.trans (HB4.out.mono HB1.out.size)).alloc (by have := HB1.out.size; omega) _⟩

end Go.Proofs.Qxb6601196a
