import Derived.Test.Qxb6601196aRows
import Derived.WalkKit
import Derived.ProofKit
import Derived.OpenShut
import Derived.ShutString
import Derived.WalkSpells
import Derived.ChangeOld
import Derived.Below
import Derived.RegionTactic
import Derived.ChangeAlike
import Derived.Deep.QuietTactic
import Derived.BigQuiet
import Derived.WalkSmall
import Derived.Deep.OwnRows
namespace Go.Proofs.Qxb6601196a
open Go.ChangeShapes Go.WideShapes Go.ChangeAt Go.RowKit

theorem hide {p : Prop} (h : p) : Hid p := h

/-- a colour: Kind, Index, R, G, B -/
abbrev Col : Type := Int × Int × Int × Int × Int
def Col.zero : Col := (0, 0, 0, 0, 0)
def colV (c : Col) : Value := .agg #[.int .u8 c.1, .int .u8 c.2.1, .int .u8 c.2.2.1, .int .u8 c.2.2.2.1, .int .u8 c.2.2.2.2]

/-- what extendedColor answers of n codes f -/
def ext (f : Nat → Int) (n : Nat) : Col × Nat :=
  if n = 0 then (Col.zero, 0)
  else if f 0 = 5 then
    if n < 2 then (Col.zero, n) else if 255 < f 1 then (Col.zero, 2) else ((1, f 1 % 256, 0, 0, 0), 2)
  else if f 0 = 2 then
    if n < 4 then (Col.zero, n) else if 255 < f 1 ∨ 255 < f 2 ∨ 255 < f 3 then (Col.zero, 4) else ((2, 0, f 1 % 256, f 2 % 256, f 3 % 256), 4)
  else (Col.zero, 0)

theorem ext_none (a : Option Addr) (n c : Nat) (w : World) (h : n < 1) :
    Calls Try.prog 30 #[.slice a n c] w fun e w' => e = .returned (.tuple #[colV Col.zero, .int .i64 0]) ∧ Below w.heap.size w w' := by
  obtain rfl : n = 0 := by omega
  go_enter Try.func30, Try.ntmps30
  go_wp2
  exact bodyPost_ret (v := .tuple #[.agg #[.int .u8 0, .int .u8 0, .int .u8 0, .int .u8 0, .int .u8 0], .int .i64 0]) (by simp [results, Try.results30, go_sem]) rfl ⟨rfl, (Below.refl _ _).alloc (Nat.le_refl _) _⟩

theorem ext_short5 (b off n c : Nat) (w : World) (h1 : 1 ≤ n) (h2 : n < 2) (c0 : w.cell? ⟨b, off, none⟩ = some (.int .i64 5)) :
    Calls Try.prog 30 #[.slice (some ⟨b, off, none⟩) n c] w fun e w' => e = .returned (.tuple #[colV Col.zero, .int .i64 n]) ∧ Below w.heap.size w w' := by
  have h0 : ((n : Int) == 0) = false := by rw [beq_eq_false_iff_ne]; omega
  have hb : b < w.heap.size := block_lt_of_cell c0
  go_enter Try.func30, Try.ntmps30
  go_wp2
  exact bodyPost_ret (v := .tuple #[.agg #[.int .u8 0, .int .u8 0, .int .u8 0, .int .u8 0, .int .u8 0], .int .i64 n]) (by simp [results, Try.results30, go_sem]) rfl ⟨rfl, (Below.refl _ _).alloc (Nat.le_refl _) _⟩

theorem ext_great5 (b off n c : Nat) (x : Int) (w : World) (h2 : 2 ≤ n) (hn : n ≤ 4194304) (hx : 255 < x) (c0 : w.cell? ⟨b, off, none⟩ = some (.int .i64 5)) (c1 : w.cell? ⟨b, off + 1, none⟩ = some (.int .i64 x)) :
    Calls Try.prog 30 #[.slice (some ⟨b, off, none⟩) n c] w fun e w' => e = .returned (.tuple #[colV Col.zero, .int .i64 2]) ∧ Below w.heap.size w w' := by
  have h0 : ((n : Int) == 0) = false := by rw [beq_eq_false_iff_ne]; omega
  have hb : b < w.heap.size := block_lt_of_cell c0
  go_enter Try.func30, Try.ntmps30
  go_wp2
  exact bodyPost_ret (v := .tuple #[.agg #[.int .u8 0, .int .u8 0, .int .u8 0, .int .u8 0, .int .u8 0], .int .i64 2]) (by simp [results, Try.results30, go_sem]) rfl ⟨rfl, (Below.refl _ _).alloc (Nat.le_refl _) _⟩

theorem ext_pal (b off n c : Nat) (x : Int) (w : World) (h2 : 2 ≤ n) (hn : n ≤ 4194304) (hx : x ≤ 255) (c0 : w.cell? ⟨b, off, none⟩ = some (.int .i64 5)) (c1 : w.cell? ⟨b, off + 1, none⟩ = some (.int .i64 x)) :
    Calls Try.prog 30 #[.slice (some ⟨b, off, none⟩) n c] w fun e w' => e = .returned (.tuple #[colV (1, x % 256, 0, 0, 0), .int .i64 2]) ∧ Below w.heap.size w w' := by
  have h0 : ((n : Int) == 0) = false := by rw [beq_eq_false_iff_ne]; omega
  have hb : b < w.heap.size := block_lt_of_cell c0
  go_enter Try.func30, Try.ntmps30
  go_wp2
  exact bodyPost_ret (v := .tuple #[.agg #[.int .u8 1, .int .u8 (x % 256), .int .u8 0, .int .u8 0, .int .u8 0], .int .i64 2]) (by simp [results, Try.results30, go_sem]) rfl ⟨rfl, (Below.refl _ _).alloc (Nat.le_refl _) _⟩

theorem ext_short2 (b off n c : Nat) (w : World) (h1 : 1 ≤ n) (h2 : n < 4) (c0 : w.cell? ⟨b, off, none⟩ = some (.int .i64 2)) :
    Calls Try.prog 30 #[.slice (some ⟨b, off, none⟩) n c] w fun e w' => e = .returned (.tuple #[colV Col.zero, .int .i64 n]) ∧ Below w.heap.size w w' := by
  have h0 : ((n : Int) == 0) = false := by rw [beq_eq_false_iff_ne]; omega
  have hb : b < w.heap.size := block_lt_of_cell c0
  go_enter Try.func30, Try.ntmps30
  go_wp2
  exact bodyPost_ret (v := .tuple #[.agg #[.int .u8 0, .int .u8 0, .int .u8 0, .int .u8 0, .int .u8 0], .int .i64 n]) (by simp [results, Try.results30, go_sem]) rfl ⟨rfl, (Below.refl _ _).alloc (Nat.le_refl _) _⟩

theorem ext_great2 (b off n c : Nat) (x y z : Int) (w : World) (h2 : 4 ≤ n) (hn : n ≤ 4194304) (hx : 255 < x ∨ 255 < y ∨ 255 < z) (c0 : w.cell? ⟨b, off, none⟩ = some (.int .i64 2)) (c1 : w.cell? ⟨b, off + 1, none⟩ = some (.int .i64 x)) (c2 : w.cell? ⟨b, off + 2, none⟩ = some (.int .i64 y)) (c3 : w.cell? ⟨b, off + 3, none⟩ = some (.int .i64 z)) :
    Calls Try.prog 30 #[.slice (some ⟨b, off, none⟩) n c] w fun e w' => e = .returned (.tuple #[colV Col.zero, .int .i64 4]) ∧ Below w.heap.size w w' := by
  by_cases hx1 : 255 < x
  · clear hx
    have h0 : ((n : Int) == 0) = false := by rw [beq_eq_false_iff_ne]; omega
    have hb : b < w.heap.size := block_lt_of_cell c0
    go_enter Try.func30, Try.ntmps30
    go_wp2
    exact bodyPost_ret (v := .tuple #[.agg #[.int .u8 0, .int .u8 0, .int .u8 0, .int .u8 0, .int .u8 0], .int .i64 4]) (by simp [results, Try.results30, go_sem]) rfl ⟨rfl, (Below.refl _ _).alloc (Nat.le_refl _) _⟩
  · by_cases hy1 : 255 < y
    · clear hx
      have h0 : ((n : Int) == 0) = false := by rw [beq_eq_false_iff_ne]; omega
      have hb : b < w.heap.size := block_lt_of_cell c0
      go_enter Try.func30, Try.ntmps30
      go_wp2
      exact bodyPost_ret (v := .tuple #[.agg #[.int .u8 0, .int .u8 0, .int .u8 0, .int .u8 0, .int .u8 0], .int .i64 4]) (by simp [results, Try.results30, go_sem]) rfl ⟨rfl, (Below.refl _ _).alloc (Nat.le_refl _) _⟩
    · have hz1 : 255 < z := by omega
      clear hx
      have h0 : ((n : Int) == 0) = false := by rw [beq_eq_false_iff_ne]; omega
      have hb : b < w.heap.size := block_lt_of_cell c0
      go_enter Try.func30, Try.ntmps30
      go_wp2
      exact bodyPost_ret (v := .tuple #[.agg #[.int .u8 0, .int .u8 0, .int .u8 0, .int .u8 0, .int .u8 0], .int .i64 4]) (by simp [results, Try.results30, go_sem]) rfl ⟨rfl, (Below.refl _ _).alloc (Nat.le_refl _) _⟩

theorem ext_rgb (b off n c : Nat) (x y z : Int) (w : World) (h2 : 4 ≤ n) (hn : n ≤ 4194304) (hx : x ≤ 255) (hy : y ≤ 255) (hz : z ≤ 255) (c0 : w.cell? ⟨b, off, none⟩ = some (.int .i64 2)) (c1 : w.cell? ⟨b, off + 1, none⟩ = some (.int .i64 x)) (c2 : w.cell? ⟨b, off + 2, none⟩ = some (.int .i64 y)) (c3 : w.cell? ⟨b, off + 3, none⟩ = some (.int .i64 z)) :
    Calls Try.prog 30 #[.slice (some ⟨b, off, none⟩) n c] w fun e w' => e = .returned (.tuple #[colV (2, 0, x % 256, y % 256, z % 256), .int .i64 4]) ∧ Below w.heap.size w w' := by
  have h0 : ((n : Int) == 0) = false := by rw [beq_eq_false_iff_ne]; omega
  have hb : b < w.heap.size := block_lt_of_cell c0
  go_enter Try.func30, Try.ntmps30
  go_wp2
  go_region
  go_wp2
  exact bodyPost_ret (v := .tuple #[.agg #[.int .u8 2, .int .u8 0, .int .u8 (x % 256), .int .u8 (y % 256), .int .u8 (z % 256)], .int .i64 4]) (by simp [results, Try.results30, go_sem]) rfl ⟨rfl, ((Below.refl _ _).alloc (Nat.le_refl _) _).drew⟩

theorem ext_other (b off n c : Nat) (x : Int) (w : World) (h1 : 1 ≤ n) (hn : n ≤ 4194304) (h5 : x ≠ 5) (h2 : x ≠ 2) (c0 : w.cell? ⟨b, off, none⟩ = some (.int .i64 x)) :
    Calls Try.prog 30 #[.slice (some ⟨b, off, none⟩) n c] w fun e w' => e = .returned (.tuple #[colV Col.zero, .int .i64 0]) ∧ Below w.heap.size w w' := by
  have h5' : (x == 5) = false := by rw [beq_eq_false_iff_ne]; exact h5
  have h2' : (x == 2) = false := by rw [beq_eq_false_iff_ne]; exact h2
  clear h5 h2
  have h0 : ((n : Int) == 0) = false := by rw [beq_eq_false_iff_ne]; omega
  have hb : b < w.heap.size := block_lt_of_cell c0
  go_enter Try.func30, Try.ntmps30
  go_wp2
  exact bodyPost_ret (v := .tuple #[.agg #[.int .u8 0, .int .u8 0, .int .u8 0, .int .u8 0, .int .u8 0], .int .i64 0]) (by simp [results, Try.results30, go_sem]) rfl ⟨rfl, (Below.refl _ _).alloc (Nat.le_refl _) _⟩

/-- extendedColor, whatever the codes -/
theorem ext_any (a : Option Addr) (n c : Nat) (f : Nat → Int) (w : World) (hn : n ≤ 4194304) (hc : 0 < n → ∃ b off, a = some ⟨b, off, none⟩ ∧ ∀ k, k < n → w.cell? ⟨b, off + k, none⟩ = some (.int .i64 (f k))) :
    Calls Try.prog 30 #[.slice a n c] w fun e w' => e = .returned (.tuple #[colV (ext f n).1, .int .i64 (ext f n).2]) ∧ Below w.heap.size w w' := by
  by_cases h0 : n < 1
  · have e : ext f n = (Col.zero, 0) := by unfold ext; rw [if_pos (by omega)]
    rw [e]; exact ext_none a n c w h0
  · obtain ⟨b, off, rfl, hcell⟩ := hc (by omega)
    have c0 := hcell 0 (by omega)
    rw [Nat.add_zero] at c0
    have e0 : ext f n = if f 0 = 5 then
        if n < 2 then (Col.zero, n) else if 255 < f 1 then (Col.zero, 2) else ((1, f 1 % 256, 0, 0, 0), 2)
      else if f 0 = 2 then
        if n < 4 then (Col.zero, n) else if 255 < f 1 ∨ 255 < f 2 ∨ 255 < f 3 then (Col.zero, 4) else ((2, 0, f 1 % 256, f 2 % 256, f 3 % 256), 4)
      else (Col.zero, 0) := by unfold ext; rw [if_neg (by omega)]
    rw [e0]
    by_cases h5 : f 0 = 5
    · rw [if_pos h5]
      rw [h5] at c0
      by_cases hs : n < 2
      · rw [if_pos hs]; exact ext_short5 b off n c w (by omega) hs c0
      · rw [if_neg hs]
        by_cases hg : 255 < f 1
        · rw [if_pos hg]; exact ext_great5 b off n c (f 1) w (by omega) hn hg c0 (hcell 1 (by omega))
        · rw [if_neg hg]; exact ext_pal b off n c (f 1) w (by omega) hn (by omega) c0 (hcell 1 (by omega))
    · rw [if_neg h5]
      by_cases h2 : f 0 = 2
      · rw [if_pos h2]
        rw [h2] at c0
        by_cases hs : n < 4
        · rw [if_pos hs]; exact ext_short2 b off n c w (by omega) hs c0
        · rw [if_neg hs]
          by_cases hg : 255 < f 1 ∨ 255 < f 2 ∨ 255 < f 3
          · rw [if_pos hg]; exact ext_great2 b off n c (f 1) (f 2) (f 3) w (by omega) hn hg c0 (hcell 1 (by omega)) (hcell 2 (by omega)) (hcell 3 (by omega))
          · rw [if_neg hg]; exact ext_rgb b off n c (f 1) (f 2) (f 3) w (by omega) hn (by omega) (by omega) (by omega) c0 (hcell 1 (by omega)) (hcell 2 (by omega)) (hcell 3 (by omega))
      · rw [if_neg h2]; exact ext_other b off n c (f 0) w (by omega) hn h5 h2 c0

/-- all old cells, all old marks read as before -/
theorem bcell {W w1 : World} {B : Nat} (hb : Below B W w1) : (∀ b o, b < B → w1.cell? ⟨b, o, none⟩ = W.cell? ⟨b, o, none⟩) ∧ (∀ b o, b < B → w1.frozen? ⟨b, o, none⟩ = W.frozen? ⟨b, o, none⟩) :=
  ⟨fun b o h => hb.cell (p := ⟨b, o, none⟩) h, fun b o h => hb.frozen (p := ⟨b, o, none⟩) h⟩

set_option maxHeartbeats 400000 in
theorem zzext_any (a : Option Addr) (n c : Nat) (f : Nat → Int) (w : World) (hn : n ≤ 4194304) (hc : 0 < n → ∃ b off, a = some ⟨b, off, none⟩ ∧ ∀ k, k < n → w.cell? ⟨b, off + k, none⟩ = some (.int .i64 (f k))) :
    Calls Try.prog 11 #[.slice a n c] w fun e w' => e = .returned (.tuple #[colV (ext f n).1, .int .i64 (ext f n).2]) ∧ Below w.heap.size w w' := by
  have hx := ext_any a n c f (w.alloc (.cells #[.int .u8 0, .int .u8 0, .int .u8 0, .int .u8 0, .int .u8 0] 27)) hn (fun h => by
    obtain ⟨b, off, e, h2⟩ := hc h
    exact ⟨b, off, e, fun k hk => by rw [World.cell?_alloc_lt _ _ _ (by exact block_lt_of_cell (h2 k hk))]; exact h2 k hk⟩)
  clear hc
  generalize ext f n = E at *
  obtain ⟨⟨k, i, r, g, b⟩, u⟩ := E
  simp only [colV] at hx ⊢
  have HX := hide hx
  clear hx
  go_enter Try.func11, Try.ntmps11
  go_wp2_with fail
  refine HX.out.mono ?_
  rintro e w1 ⟨rfl, hb⟩
  have HB := hide (((Below.refl w.heap.size w).alloc (Nat.le_refl _) _).trans (hb.mono (by simp)))
  have hz : w.heap.size < w1.heap.size := by have := hb.size; simp at this; omega
  obtain ⟨hc, hf⟩ := bcell hb
  clear hb
  go_wp2
  exact bodyPost_ret (v := .tuple #[.agg #[.int .u8 k, .int .u8 i, .int .u8 r, .int .u8 g, .int .u8 b], .int .i64 u]) (by simp [results, Try.results11, go_sem, hc]) rfl ⟨rfl, ((((HB.out.setCell (Nat.le_refl _) _).setCell (Nat.le_refl _) _).setCell (Nat.le_refl _) _).setCell (Nat.le_refl _) _).setCell (Nat.le_refl _) _⟩

end Go.Proofs.Qxb6601196a
