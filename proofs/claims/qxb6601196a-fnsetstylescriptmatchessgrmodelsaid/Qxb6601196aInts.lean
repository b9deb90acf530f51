import Derived.Test.Qxb6601196aExt
namespace Go.Proofs.Qxb6601196a
open Go.ChangeShapes Go.WideShapes Go.ChangeAt Go.RowKit

theorem info3 : (Try.prog.info? 3).map (fun i => (i.zero, i.size, i.bytes)) = some (some (.int .i64 0), 1, 8) := by kernel_rfl
theorem made3 (n : Nat) (h : n ≤ 4194304) (w : World) :
    (Instr.makeSlice 22 (.int .i64 (n : Int)) (.int .i64 (n : Int))).run Try.prog w = .ok (.slice (some ⟨w.heap.size, 0, none⟩) n n) (w.alloc (.cells (madeCells #[.int .i64 0] n) 3)) :=
  run_make_row' 22 3 (.int .i64 0) 8 Try.underlying22 info3 rfl .i64 .i64 n (by omega) (by omega) w

/-- block b is a row of the n ints f -/
abbrev IRow (w : World) (b n : Nat) (f : Nat → Int) : Prop := w.rowIs b 3 n (fun k => .int .i64 (f k))
def put (g : Nat → Int) (k : Nat) (v : Int) : Nat → Int := fun j => if j = k then v else g j
theorem IRow.set {w : World} {b n : Nat} {f : Nat → Int} (h : IRow w b n f) (k : Nat) (v : Int) : IRow (w.setCell ⟨b, k, none⟩ (.int .i64 v)) b n (put f k v) := by
  refine (World.rowIs.set h k (.int .i64 v)).congr ?_
  intro i _
  simp only [put]
  split <;> rfl
theorem IRow.congr {w : World} {b n : Nat} {f g : Nat → Int} (h : IRow w b n f) (e : ∀ j, j < n → f j = g j) : IRow w b n g :=
  World.rowIs.congr h (fun i hi => by rw [e i hi])
theorem IRow.cell {w : World} {b n : Nat} {f : Nat → Int} (h : IRow w b n f) {j : Nat} (hj : j < n) : w.cell? ⟨b, j, none⟩ = some (.int .i64 (f j)) := World.rowIs.cell h hj
theorem IRow.free {w : World} {b n : Nat} {f : Nat → Int} (h : IRow w b n f) (j : Nat) : w.frozen? ⟨b, j, none⟩ = false := World.rowIs.frozen h j

theorem fill_step (f : Nat → Int) (k j : Nat) : put (fun j => if j < k then f j else 0) k (f k) j = if j < k + 1 then f j else 0 := by
  simp only [put]
  by_cases e : j = k
  · subst e; simp
  · rw [if_neg e]
    by_cases e2 : j < k
    · rw [if_pos e2, if_pos (by omega)]
    · rw [if_neg e2, if_neg (by omega)]

theorem clone_nil (w : World) :
    Calls Try.prog 10 #[.slice none 0 0] w fun e w' => e = .returned (.slice none 0 0) ∧ w' = w := by
  have hnn := fun w => Lib.run_eql_slice_nil (P := Try.prog) w 22 3 none 0 0 0 0 Try.underlying22
  go_enter Try.func10, Try.ntmps10
  go_wp2
  go_ret
  exact ⟨rfl, rfl⟩

set_option maxHeartbeats 400000 in
theorem clone_some (x : Addr) (n c : Nat) (f : Nat → Int) (w : World) (hn : n ≤ 1048576) (hc : ∀ k, k < n → w.cell? (x.add k) = some (.int .i64 (f k))) :
    Calls Try.prog 10 #[.slice (some x) n c] w fun e w' => e = .returned (.slice (some ⟨w.heap.size, 0, none⟩) n n) ∧ IRow w' w.heap.size n f ∧ Below w.heap.size w w' ∧ w.heap.size < w'.heap.size := by
  obtain ⟨b, off, spot⟩ := x
  have hnn := fun w => Lib.run_eql_slice_nil (P := Try.prog) w 22 3 (some ⟨b, off, spot⟩) n c 0 0 Try.underlying22
  have hmk := made3 n (by omega)
  have HC := hide hc
  clear hc
  go_enter Try.func10, Try.ntmps10
  go_wp2
  clear hnn hmk
  go_loopw [4] (fun i wr => ∃ k : Nat, k ≤ n ∧ i = .int .i64 k ∧ IRow wr w.heap.size n (fun j => if j < k then f j else 0) ∧ Below w.heap.size w wr ∧ w.heap.size < wr.heap.size) (fun i _ => n - (intOf i).toNat)
  case atStart => exact ⟨0, Nat.zero_le _, rfl, (World.rowIs_made w (.int .i64 0) n 3).congr (fun i hi => by simp), (Below.refl _ _).alloc (Nat.le_refl _) _, by simp⟩
  case round =>
    obtain ⟨k, hk, rfl, ho, hbel, hsz⟩ := hrel
    by_cases hlt : k < n
    · have hcx := HC.out k hlt
      have hspot : spot = none := by simpa [Addr.add] using World.cell?_spot (HC.out 0 (by omega))
      subst hspot
      rw [add_plain] at hcx
      have hbx : b < w.heap.size := block_lt_of_cell hcx
      have hcr : wr.cell? ⟨b, off + k, none⟩ = some (.int .i64 (f k)) := by
        rw [hbel.cell (by exact hbx)]; exact hcx
      have hck := ho.cell hlt
      have hfk := ho.free k
      have HO := hide (ho.set k (f k))
      have HB := hide hbel
      clear hcx ho hbel
      go_wp2
      go_roundw
      case rel => exact ⟨k + 1, by omega, by go_num, HO.out.congr (fun j _ => fill_step f k j), HB.out.setCell (Nat.le_refl _) _, by simpa [World.setCell] using hsz⟩
      case measure => simp [intOf]; omega
    · have HO := hide (ho.congr (g := f) (fun j hj => by rw [if_pos (by omega)]))
      have HB := hide hbel
      clear ho hbel
      go_wp2
      go_ret
      exact ⟨rfl, HO.out, HB.out, hsz⟩

/-- the slice that came in: nil, or n ints f behind an address -/
def IsI (w : World) (a : Option Addr) (n c : Nat) (f : Nat → Int) : Prop :=
  (a = none ∧ n = 0 ∧ c = 0) ∨ ∃ x, a = some x ∧ ∀ k, k < n → w.cell? (x.add k) = some (.int .i64 (f k))

/-- a slice of the call's own: nil, or the row of a block from B on -/
def OwnI (w : World) (B : Nat) (a : Option Addr) (n : Nat) (f : Nat → Int) : Prop :=
  (a = none ∧ n = 0) ∨ ∃ b, a = some ⟨b, 0, none⟩ ∧ B ≤ b ∧ b < w.heap.size ∧ IRow w b n f

theorem clone_any (a : Option Addr) (n c : Nat) (f : Nat → Int) (w : World) (hn : n ≤ 1048576) (h : IsI w a n c f) :
    Calls Try.prog 10 #[.slice a n c] w fun e w' => ∃ a', e = .returned (.slice a' n n) ∧ OwnI w' w.heap.size a' n f ∧ Below w.heap.size w w' := by
  rcases h with ⟨rfl, rfl, rfl⟩ | ⟨x, rfl, hc⟩
  · refine (clone_nil w).mono ?_
    rintro e w' ⟨rfl, rfl⟩
    exact ⟨none, rfl, .inl ⟨rfl, rfl⟩, Below.refl _ _⟩
  · refine (clone_some x n c f w hn hc).mono ?_
    rintro e w' ⟨rfl, h1, h2, h3⟩
    exact ⟨_, rfl, .inr ⟨_, rfl, Nat.le_refl _, h3, h1⟩, h2⟩

theorem OwnI.some {w : World} {B n : Nat} {a : Option Addr} {f : Nat → Int} (h : OwnI w B a n f) (hn : 0 < n) : ∃ b, a = Option.some ⟨b, 0, none⟩ ∧ b < w.heap.size ∧ IRow w b n f := by
  rcases h with ⟨_, h2⟩ | ⟨b, h1, _, h3, h4⟩
  · omega
  · exact ⟨b, h1, h3, h4⟩

end Go.Proofs.Qxb6601196a
