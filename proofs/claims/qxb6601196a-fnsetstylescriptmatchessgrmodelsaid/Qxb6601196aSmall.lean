import Derived.Test.Qxb6601196aPut
import Derived.Test.Qxb6601196aInts
namespace Go.Proofs.Qxb6601196a
open Go.ChangeShapes Go.WideShapes Go.ChangeAt Go.RowKit Go.Deep
set_option linter.unusedVariables false

set_option maxRecDepth 100000 in
/-- ZZNumberOf of a style that has a number -/
theorem numberOf_any (S B : Nat) (s0 s : Sty) (n0 : Int) (sv mv : Value) (L : List Sty) (w : World) (h : Scr w S B s0 n0 sv mv L L) (hw : Wf s) {j : Nat} (hj : L[j]? = some s) :
    Calls Try.prog 28 #[.pointer (some ⟨S, 0, none⟩), styV s] w fun e w' => e = .returned (.tuple #[.int .u32 ((j : Int) + 1), .bool true]) ∧ ∃ q, w' = (w.alloc (.cells (styC s) 59)).drewN q := by
  have hlk : ∀ q, (Instr.lookup 61 mv (styV s) true).run Try.prog ((w.alloc (.cells (styC s) 59)).drewN q) = .ok (.tuple #[.int .u32 ((j : Int) + 1), .bool true]) ((w.alloc (.cells (styC s) 59)).drewN q) :=
    fun q => (look_old ((h.alloc (.cells (styC s) 59)).drewN q) hw hj).elim fun _ hx => hx.2
  obtain ⟨mb, rfl, _⟩ := look_old h hw hj
  have hS := h.c22
  have hSl := h.lt
  clear h
  simp only [styV, styC] at hlk ⊢
  go_enter Try.func28, Try.ntmps28
  go_wp2_with fail
  go_quiet (fail)
  go_wp2_with fail
  go_ret2
  exact ⟨rfl, _, rfl⟩

/-- the script as it came: n rows, row r of Ln r ints Z r -/
structure Mat (w : World) (a : Option Addr) (n : Nat) (A : Nat → Option Addr) (Ln C : Nat → Nat) (Z : Nat → Nat → Int) : Prop where
  top : ∀ r, r < n → ∃ x, a = some x ∧ w.cell? (x.add r) = some (.slice (A r) (Ln r) (C r))
  row : ∀ r, r < n → IsI w (A r) (Ln r) (C r) (Z r)
theorem Mat.adr {w : World} {a : Option Addr} {n : Nat} {A : Nat → Option Addr} {Ln C : Nat → Nat} {Z : Nat → Nat → Int} (h : Mat w a n A Ln C Z) (hn : 0 < n) : ∃ b off, a = some ⟨b, off, none⟩ ∧ b < w.heap.size ∧ ∀ r, r < n → w.cell? ⟨b, off + r, none⟩ = some (.slice (A r) (Ln r) (C r)) := by
  obtain ⟨⟨b, off, spot⟩, rfl, h0⟩ := h.top 0 hn
  have hs : spot = none := by simpa [Addr.add] using World.cell?_spot h0
  subst hs
  refine ⟨b, off, rfl, block_lt_of_cell h0, fun r hr => ?_⟩
  obtain ⟨x, e, hx⟩ := h.top r hr
  injection e with e
  subst e
  rw [add_plain] at hx
  exact hx

def IsBool (e : Ending) : Prop := ∃ b, e = .returned (.bool b)
/-- the bound on the total length: it answers, and turns nothing -/
theorem bytes_any (a : Option Addr) (n c : Nat) (A : Nat → Option Addr) (Ln C : Nat → Nat) (Z : Nat → Nat → Int) (w : World) (h : Mat w a n A Ln C Z) (hl : ∀ r, r < n → Ln r ≤ maxLen) (hn : n ≤ maxLen) :
    Calls Try.prog 19 #[.slice a n c] w fun e w' => IsBool e ∧ w' = w := by
  have HM := hide h
  have HL := hide hl
  unfold maxLen at hn
  clear h hl
  go_enter Try.func19, Try.ntmps19
  by_cases h1 : n ≤ 1048576
  · go_wp2_with fail
    go_loopw [3, 4] (fun z i wr => wr = w ∧ ∃ (k : Nat) (m : Int), k ≤ n ∧ i = .int .i64 k ∧ z = .int .i64 m ∧ 0 ≤ m ∧ m ≤ 1048576) (fun _ i _ => n - (intOf i).toNat)
    case atStart => exact ⟨rfl, 0, n, Nat.zero_le _, rfl, rfl, by omega, by omega⟩
    case round =>
      obtain ⟨rfl, k, m, hk, rfl, rfl, hm0, hm1⟩ := hrel
      by_cases hlt : k < n
      · obtain ⟨b, off, rfl, hb, hc⟩ := HM.out.adr (by omega)
        have hck := hc k hlt
        have hlk := HL.out k hlt
        unfold maxLen at hlk
        have hlt' : (k : Int) < (n : Int) := by omega
        clear hc
        by_cases h2 : Ln k ≤ 1048576
        · by_cases h3 : m + (Ln k : Int) ≤ 1048576
          · go_wp2_with fail
            go_roundw
            case rel => exact ⟨by trivial, k + 1, m + Ln k, by omega, by go_num, by go_num, by omega, by omega⟩
            case measure => simp [intOf]; omega
          · go_wp2_with fail
            go_ret
            exact ⟨⟨_, rfl⟩, rfl⟩
        · go_wp2_with fail
          go_ret
          exact ⟨⟨_, rfl⟩, rfl⟩
      · go_wp2_with fail
        go_ret
        exact ⟨⟨_, rfl⟩, rfl⟩
  · go_wp2_with fail
    go_ret
    exact ⟨⟨_, rfl⟩, rfl⟩

theorem info22 : (Try.prog.info? 22).map (fun i => (i.zero, i.size, i.bytes)) = some (some (.slice none 0 0), 1, 24) := by kernel_rfl
theorem made22 (n : Nat) (h : n ≤ 4194304) (w : World) :
    (Instr.makeSlice 48 (.int .i64 (n : Int)) (.int .i64 (n : Int))).run Try.prog w = .ok (.slice (some ⟨w.heap.size, 0, none⟩) n n) (w.alloc (.cells (madeCells #[.slice none 0 0] n) 22)) :=
  run_make_row' 48 22 (.slice none 0 0) 24 Try.underlying48 info22 rfl .i64 .i64 n (by omega) (by omega) w

/-- the script's copy: its rows lie in blocks of their own, from B on -/
structure Copy (w : World) (B : Nat) (a : Option Addr) (n : Nat) (A : Nat → Option Addr) (Ln : Nat → Nat) (Z : Nat → Nat → Int) : Prop where
  top : ∀ r, r < n → a = some ⟨B, 0, none⟩ ∧ w.cell? ⟨B, r, none⟩ = some (.slice (A r) (Ln r) (Ln r))
  lt : 0 < n → B < w.heap.size
  row : ∀ r, r < n → OwnI w (B + 1) (A r) (Ln r) (Z r)
theorem OwnI.below {w w' : World} {B : Nat} {a : Option Addr} {n : Nat} {f : Nat → Int} (h : OwnI w B a n f) (hb : Below w.heap.size w w') : OwnI w' B a n f := by
  rcases h with h | ⟨b, h1, h2, h3, h4⟩
  · exact .inl h
  · exact .inr ⟨b, h1, h2, Nat.lt_of_lt_of_le h3 hb.size, World.rowIs.of_block h4 (hb.block b h3)⟩

theorem copy_nil (w : World) : Calls Try.prog 20 #[.slice none 0 0] w fun e w' => e = .returned (.slice none 0 0) ∧ w' = w := by
  have hnn := fun w => Lib.run_eql_slice_nil (P := Try.prog) w 48 22 none 0 0 0 0 Try.underlying48
  go_enter Try.func20, Try.ntmps20
  go_wp2_with fail
  go_ret
  exact ⟨rfl, rfl⟩

theorem OwnI.setOther {w : World} {B : Nat} {a : Option Addr} {n : Nat} {f : Nat → Int} (h : OwnI w (B + 1) a n f) (i : Nat) (v : Value) : OwnI (w.setCell ⟨B, i, none⟩ v) (B + 1) a n f := by
  rcases h with h | ⟨b, h1, h2, h3, h4⟩
  · exact .inl h
  · exact .inr ⟨b, h1, h2, by simpa [World.setCell] using h3, World.rowIs.setOther h4 (by show b ≠ B; omega) v⟩
theorem OwnI.mono {w : World} {B B' : Nat} {a : Option Addr} {n : Nat} {f : Nat → Int} (h : OwnI w B a n f) (hb : B' ≤ B) : OwnI w B' a n f := by
  rcases h with h | ⟨b, h1, h2, h3, h4⟩
  · exact .inl h
  · exact .inr ⟨b, h1, by omega, h3, h4⟩
theorem IsI.below {w w' : World} {a : Option Addr} {n c : Nat} {f : Nat → Int} {B : Nat} (h : IsI w a n c f) (hB : B = w.heap.size) (hb : Below B w w') : IsI w' a n c f := by
  subst hB
  rcases h with h | ⟨x, h1, h2⟩
  · exact .inl h
  · exact .inr ⟨x, h1, fun k hk => by rw [hb.cell (block_lt_of_cell (h2 k hk))]; exact h2 k hk⟩

set_option maxHeartbeats 800000 in
theorem copy_some (b off n c : Nat) (spot : Option Nat) (hsp : 0 < n → spot = none) (A : Nat → Option Addr) (Ln C : Nat → Nat) (Z : Nat → Nat → Int) (w : World) (hn : n ≤ 1048576) (hc : ∀ r, r < n → w.cell? ⟨b, off + r, none⟩ = some (.slice (A r) (Ln r) (C r)))
    (hr : ∀ r, r < n → IsI w (A r) (Ln r) (C r) (Z r)) (hl : ∀ r, r < n → Ln r ≤ 1048576) :
    Calls Try.prog 20 #[.slice (some ⟨b, off, spot⟩) n c] w fun e w' => e = .returned (.slice (some ⟨w.heap.size, 0, none⟩) n n) ∧ ∃ A', Copy w' w.heap.size (some ⟨w.heap.size, 0, none⟩) n A' Ln Z ∧ Below w.heap.size w w' := by
  have hnn := fun w => Lib.run_eql_slice_nil (P := Try.prog) w 48 22 (some ⟨b, off, spot⟩) n c 0 0 Try.underlying48
  have hmk := made22 n (by omega)
  have HC := hide hc
  have HR := hide hr
  have HL := hide hl
  clear hc hr hl
  go_enter Try.func20, Try.ntmps20
  go_wp2_with fail
  clear hnn hmk
  go_loopw [4] (fun i wr => ∃ (k : Nat) (A' : Nat → Option Addr), k ≤ n ∧ i = .int .i64 k ∧ wr.rowIs w.heap.size 22 n (fun r => if r < k then .slice (A' r) (Ln r) (Ln r) else .slice none 0 0) ∧ (∀ r, r < k → OwnI wr (w.heap.size + 1) (A' r) (Ln r) (Z r)) ∧ Below w.heap.size w wr) (fun i _ => n - (intOf i).toNat)
  case atStart => exact ⟨0, fun _ => none, Nat.zero_le _, rfl, (World.rowIs_made w (.slice none 0 0) n 22).congr (fun i hi => by simp), fun r hr => absurd hr (by omega), (Below.refl _ _).alloc (Nat.le_refl _) _⟩
  case round =>
    obtain ⟨k, A', hk, rfl, ho, hrows, hbel⟩ := hrel
    by_cases hlt : k < n
    · obtain rfl := hsp (by omega)
      have hcx := HC.out k hlt
      have hbx : b < w.heap.size := block_lt_of_cell hcx
      have hcr : wr.cell? ⟨b, off + k, none⟩ = some (.slice (A k) (Ln k) (C k)) := by
        rw [hbel.cell (by exact hbx)]; exact hcx
      have hlt' : (k : Int) < (n : Int) := by omega
      have hwl := World.rowIs.lt ho
      have HE := hide (clone_any (A k) (Ln k) (C k) (Z k) wr (HL.out k hlt) ((HR.out k hlt).below rfl hbel))
      have HO := hide ho
      have HW := hide hrows
      have HB := hide hbel
      clear hcx ho hbel hrows
      go_wp2_with fail
      refine HE.out.mono ?_
      rintro e w1 ⟨a1, rfl, h1, hb1⟩
      have ho1 : w1.rowIs w.heap.size 22 n (fun r => if r < k then .slice (A' r) (Ln r) (Ln r) else .slice none 0 0) := World.rowIs.of_block HO.out (hb1.block _ hwl)
      have hck := ho1.cell hlt
      have hfk := ho1.frozen k
      simp only [Nat.lt_irrefl, if_false] at hck
      have HO1 := hide (ho1.set k (.slice a1 (Ln k) (Ln k)))
      have HW1 := hide (fun r hr => ((HW.out r hr).below hb1))
      have H1 := hide h1
      have HB1 := hide hb1
      clear ho1 HE h1 hb1
      go_wp2_with fail
      go_roundw
      case rel =>
        refine ⟨k + 1, fun r => if r = k then a1 else A' r, by omega, by go_num, HO1.out.congr (fun r hr => ?_), fun r hr => ?_, (HB.out.trans (HB1.out.mono (Nat.le_of_lt hwl))).setCell (Nat.le_refl _) _⟩
        · by_cases e : r = k
          · subst e; simp
          · by_cases e2 : r < k
            · simp [e, e2, Nat.lt_succ_of_lt e2]
            · simp [e, e2, show ¬ r < k + 1 by omega]
        · by_cases e : r = k
          · subst e
            simp only [if_true]
            exact (H1.out.mono (by omega)).setOther _ _
          · simp only [e, if_false]
            exact (HW1.out r (by omega)).setOther _ _
      case measure => simp [intOf]; omega
    · have hkn : k = n := by omega
      subst hkn
      have HO := hide ho
      have HW := hide hrows
      have HB := hide hbel
      clear ho hbel hrows
      go_wp2_with fail
      go_ret
      refine ⟨rfl, A', ⟨fun r hr => ⟨rfl, ?_⟩, fun _ => World.rowIs.lt HO.out, HW.out⟩, HB.out⟩
      have := HO.out.cell hr
      simpa [hr] using this

/-- cloneScriptB1 -/
theorem copy_any (a : Option Addr) (n c : Nat) (A : Nat → Option Addr) (Ln C : Nat → Nat) (Z : Nat → Nat → Int) (w : World) (hn : n ≤ 1048576) (h : Mat w a n A Ln C Z) (h0 : a = none → n = 0 ∧ c = 0) (hl : ∀ r, r < n → Ln r ≤ 1048576) :
    Calls Try.prog 20 #[.slice a n c] w fun e w' => ∃ a' A', e = .returned (.slice a' n n) ∧ Copy w' w.heap.size a' n A' Ln Z ∧ Below w.heap.size w w' := by
  cases a with
  | none =>
    obtain ⟨rfl, rfl⟩ := h0 rfl
    refine (copy_nil w).mono ?_
    rintro e w' ⟨rfl, rfl⟩
    exact ⟨none, fun _ => none, rfl, ⟨fun r hr => absurd hr (by omega), fun h => absurd h (by omega), fun r hr => absurd hr (by omega)⟩, Below.refl _ _⟩
  | some x =>
    obtain ⟨b, off, spot⟩ := x
    have hsp : 0 < n → spot = none := fun h0 => by
      obtain ⟨x, e, hx⟩ := h.top 0 h0
      injection e with e
      subst e
      simpa [Addr.add] using World.cell?_spot hx
    refine (copy_some b off n c spot hsp A Ln C Z w hn (fun r hr => ?_) h.row hl).mono ?_
    · obtain rfl := hsp (by omega)
      obtain ⟨x, e, hx⟩ := h.top r hr
      injection e with e
      subst e
      rw [add_plain] at hx
      exact hx
    · rintro e w' ⟨rfl, A', h1, h2⟩
      exact ⟨_, A', rfl, h1, h2⟩
end Go.Proofs.Qxb6601196a
