import Derived.Test.Qxb6601172aSpec
import Derived.Lib.AppendStr
namespace Go.Proofs.Qxb6601172a
open Go.ChangeShapes Go.WideShapes Go.ChangeAt Go.RowKit

/-- n cells: the bytes F 0, F 1, .. -/
def Z (n : Nat) (F : Nat → Int) : List Value := (List.range n).map fun j => .int .u8 (F j)
/-- byte k of a string -/
def sb (s : ByteArray) (k : Nat) : Int := if h : k < s.size then ((s[k]'h).toNat : Int) else 0
/-- f, n bytes of it, then g -/
def join (n : Nat) (f g : Nat → Int) : Nat → Int := fun j => if j < n then f j else g (j - n)

theorem Z_length (n : Nat) (F : Nat → Int) : (Z n F).length = n := by simp [Z]
theorem Z_at (n : Nat) (F : Nat → Int) (j : Nat) (h : j < n) : (Z n F)[j]? = some (.int .u8 (F j)) := by simp [Z, h]
theorem Z_set (n : Nat) (F : Nat → Int) (j : Nat) (x : Int) : (Z n F).set j (.int .u8 x) = Z n (put F j x) := by
  apply List.ext_getElem?
  intro i
  rw [List.getElem?_set]
  by_cases hi : i < n
  · rw [Z_at n (put F j x) i hi]
    unfold put
    by_cases e : j = i
    · subst e; simp [Z_length, hi]
    · rw [if_neg e, if_neg (fun h => e h.symm), Z_at n F i hi]
  · rw [List.getElem?_eq_none (l := Z n (put F j x)) (by rw [Z_length]; omega)]
    by_cases e : j = i
    · subst e; simp [Z_length, hi]
    · rw [if_neg e, List.getElem?_eq_none (by rw [Z_length]; omega)]
theorem Z_congr (n : Nat) (F G : Nat → Int) (h : ∀ j, j < n → F j = G j) : Z n F = Z n G := by
  unfold Z
  apply List.map_congr_left
  intro j hj
  rw [h j (by simpa using hj)]
theorem Z_append (n m : Nat) (f g : Nat → Int) : Z n f ++ Z m g = Z (n + m) (join n f g) := by
  apply List.ext_getElem?
  intro j
  by_cases h1 : j < n
  · rw [List.getElem?_append_left (by rw [Z_length]; exact h1), Z_at _ _ _ h1, Z_at _ _ _ (by omega)]
    simp [join, h1]
  · rw [List.getElem?_append_right (by rw [Z_length]; omega), Z_length]
    by_cases h2 : j < n + m
    · rw [Z_at _ _ _ (by omega), Z_at _ _ _ h2]
      simp [join, h1]
    · rw [List.getElem?_eq_none (by rw [Z_length]; omega), List.getElem?_eq_none (by rw [Z_length]; omega)]
theorem strCells_Z (s : ByteArray) : Lib.strCells s = Z s.size (sb s) := by
  apply List.ext_getElem?
  intro j
  by_cases h : j < s.size
  · rw [Z_at _ _ _ h]
    have h' : j < s.data.toList.length := by simpa using h
    simp only [Lib.strCells, List.getElem?_map, List.getElem?_eq_getElem h', Option.map_some, sb, h, dite_true]
    rfl
  · rw [List.getElem?_eq_none (by rw [Lib.strCells_length]; omega), List.getElem?_eq_none (by rw [Z_length]; omega)]
theorem sb_bd (s : ByteArray) (k : Nat) : 0 ≤ sb s k ∧ sb s k ≤ 255 := by
  unfold sb
  split
  · rename_i h
    have := (s[k]'h).toNat_lt
    omega
  · omega

/-- the slice v, n bytes F, lies in a block of the call's own -/
abbrev Owns (w : World) (base : Nat) (v : Value) (n : Nat) (F : Nat → Int) : Prop := w.ownsRow base 5 1 v n (Z n F)

theorem Owns.congr {w : World} {base : Nat} {v : Value} {n : Nat} {F G : Nat → Int} (h : Owns w base v n F) (e : ∀ j, j < n → F j = G j) : Owns w base v n G := by
  unfold Owns; rw [← Z_congr n F G e]; exact h
theorem Owns.cell {w : World} {base g n c : Nat} {F : Nat → Int} (h : Owns w base (.slice (some ⟨g, 0, none⟩) n c) n F) {j : Nat} (hj : j < n) : w.cell? ⟨g, j, none⟩ = some (.int .u8 (F j)) := by
  rw [World.ownsRow.cellAt (h := h) j (by omega), Z_at n F j hj]
theorem Owns.free {w : World} {base g n c : Nat} {F : Nat → Int} (h : Owns w base (.slice (some ⟨g, 0, none⟩) n c) n F) (j : Nat) : w.frozen? ⟨g, j, none⟩ = false :=
  World.ownsRow.frozenAt (h := h) j
theorem Owns.set {w : World} {base g n c : Nat} {F : Nat → Int} (h : Owns w base (.slice (some ⟨g, 0, none⟩) n c) n F) (j : Nat) (x : Int) :
    Owns (w.setCell ⟨g, j, none⟩ (.int .u8 x)) base (.slice (some ⟨g, 0, none⟩) n c) n (put F j x) := by
  have := (World.ownsRow.stored (h := h) j (.int .u8 x)).1
  rw [Z_set] at this
  exact this
theorem Owns.some {w : World} {base n c : Nat} {a : Option Addr} {F : Nat → Int} (h : Owns w base (.slice a n c) n F) (hn : 0 < n) : ∃ g, a = some ⟨g, 0, none⟩ := by
  rcases h.2 with ⟨_, h2⟩ | ⟨g, cap, cur, hv, _⟩
  · omega
  · injection hv with h1
    exact ⟨g, h1⟩
theorem Owns.shape {w : World} {base n : Nat} {v : Value} {F : Nat → Int} (h : Owns w base v n F) : ∃ a c, v = .slice a n c := by
  rcases h.2 with ⟨h1, h2⟩ | ⟨g, cap, cur, hv, _⟩
  · subst h2; exact ⟨_, _, h1⟩
  · exact ⟨_, _, hv⟩

/-- v' lies where v lay, or in a block from B on -/
def Near (v v' : Value) (B : Nat) : Prop := v'.ownBlock = v.ownBlock ∨ ∃ g, v'.ownBlock = .some g ∧ B ≤ g
theorem Near.trans {v v1 v2 : Value} {B B1 : Nat} (h : Near v v1 B) (h2 : Near v1 v2 B1) (hB : B ≤ B1) : Near v v2 B := by
  rcases h2 with h2 | ⟨g, hg, hl⟩
  · rcases h with h | ⟨g, hg, hl⟩
    · exact .inl (h2.trans h)
    · exact .inr ⟨g, h2.trans hg, hl⟩
  · exact .inr ⟨g, hg, by omega⟩
theorem grown_near {w w1 w2 : World} {v v1 : Value} (h : w.grownBy w1 v.ownBlock) (hn : Near v v1 w.heap.size) (h2 : w1.grownBy w2 v1.ownBlock) : w.grownBy w2 v.ownBlock where
  os := h2.os.trans h.os
  tape := h2.tape.trans h.tape
  output := h2.output.trans h.output
  size := Nat.le_trans h.size h2.size
  block := by
    intro k hk hne
    have hs := h.size
    rw [h2.block k (by omega) ?_, h.block k hk hne]
    rcases hn with hn | ⟨g, hg, hl⟩
    · rw [hn]; exact hne
    · rw [hg]; intro e; injection e with e; omega

theorem info5parts : ∃ i, Try.prog.info? 5 = some i ∧ i.zero = some (.int .u8 0) ∧ i.size = 1 ∧ i.bytes = 1 := by
  obtain ⟨i, hi, h⟩ := Option.map_eq_some_iff.1 info5
  simp only [Prod.mk.injEq] at h
  exact ⟨i, hi, h.1, h.2.1, h.2.2⟩

/-- 'append(v, s...)' -/
theorem app_str (u : TypeId) (hu : Try.prog.underlying u = some .string) (w : World) (base : Nat) (v : Value) (n : Nat) (F : Nat → Int) (s : ByteArray) (h : Owns w base v n F) (hb : base ≤ w.heap.size) (hs : n + s.size ≤ 4194304) :
    ∃ a' c' w', (∀ ty, (Builtin.append_ #[22, u] ty #[v, .string s]).run Try.prog w = .ok (.slice a' (n + s.size) c') w') ∧ Owns w' base (.slice a' (n + s.size) c') (n + s.size) (join n F (sb s)) ∧ w.grownBy w' v.ownBlock ∧ Near v (.slice a' (n + s.size) c') w.heap.size := by
  obtain ⟨i, hi, hz, hsz, hby⟩ := info5parts
  obtain ⟨v', w', hr, ho, hg, hnil⟩ := Lib.run_append_own_string (P := Try.prog) w base 22 u 0 5 i Try.underlying22 hu hi hz hsz hby v n _ h s (by unfold maxLen; omega) (by omega) hb
  rw [strCells_Z, Z_append] at ho
  have hty : ∀ ty, (Builtin.append_ #[22, u] ty #[v, .string s]).run Try.prog w = .ok v' w' := fun ty => hr
  obtain ⟨a', c', rfl⟩ := Owns.shape ho
  refine ⟨a', c', w', hty, ho, hg, ?_⟩
  rcases h.2 with ⟨rfl, rfl⟩ | ⟨g, cap, cur, rfl, hbg, hgg, hnc, hcm, hcs, htake⟩
  · by_cases hm : s.size = 0
    · left
      rw [hnil.2 ⟨rfl, hm⟩]
    · right
      have hr2 := run_append_nil_string (P := Try.prog) w 22 u 0 5 i (.int .u8 0) Try.underlying22 hu hi hz s (by omega) (by omega) (by rw [hby]; omega)
      rw [hr2] at hr
      injection hr with h1 _
      rw [← h1]; exact ⟨_, rfl, Nat.le_refl _⟩
  · by_cases hroom : n + s.size ≤ cap
    · left
      have hr2 := Lib.run_append_room_string (P := Try.prog) w 22 u 0 5 i Try.underlying22 hu hi hsz g n cap cur hgg s hroom (by omega)
      rw [hr2] at hr
      injection hr with h1 _
      rw [← h1]; rfl
    · right
      have holds : ∀ j u, (Z n F)[j]? = some u → w.cell? ((⟨g, 0, none⟩ : Addr).add j) = some u := h.cells (g := g) rfl
      have hr2 := Lib.run_append_grow_string (P := Try.prog) w 22 u 0 5 i (.int .u8 0) Try.underlying22 hu hi hz ⟨g, 0, none⟩ n cap (Z n F) (by rw [hsz, Z_length]; omega) holds s (by omega) (by omega) (by rw [hby]; exact growslice_fits (by omega) (by omega))
      rw [hr2] at hr
      injection hr with h1 _
      rw [← h1]; exact ⟨_, rfl, Nat.le_refl _⟩

/-! ### zzCloneBytes -/
theorem clone_nil (w : World) :
    Calls Try.prog 16 #[.slice none 0 0] w fun e w' => e = .returned (.slice none 0 0) ∧ w' = w := by
  have hnn := fun w => Lib.run_eql_slice_nil (P := Try.prog) w 22 5 none 0 0 0 0 Try.underlying22
  go_enter Try.func16, Try.ntmps16
  go_wp2
  go_ret
  exact ⟨rfl, rfl⟩

theorem made_owns (w : World) (n : Nat) (h : n ≤ 1048576) : Owns (w.alloc (.cells (madeCells #[.int .u8 0] n) 5)) w.heap.size (.slice (some ⟨w.heap.size, 0, none⟩) n n) n (fun _ => 0) := by
  have h1 := World.ownsRow_lit (e := 5) (size := 1) (base := w.heap.size) w (madeCells #[.int .u8 0] n) n (Nat.le_refl _) (by unfold maxLen; omega) (by rw [size_madeCells, Nat.mul_one])
  rw [toList_madeCells_one] at h1
  have e : List.replicate n (Value.int .u8 0) = Z n (fun _ => 0) := by
    apply List.ext_getElem?
    intro j
    by_cases hj : j < n
    · rw [Z_at _ _ _ hj]; simp [hj]
    · rw [List.getElem?_eq_none (l := Z n _) (by rw [Z_length]; omega)]; simp; omega
  rw [e] at h1
  exact h1

theorem fill_step (f : Nat → Int) (k j : Nat) : put (fun j => if j < k then f j else 0) k (f k) j = if j < k + 1 then f j else 0 := by
  simp only [put]
  by_cases e : j = k
  · subst e; simp
  · rw [if_neg e]
    by_cases e2 : j < k
    · rw [if_pos e2, if_pos (by omega)]
    · rw [if_neg e2, if_neg (by omega)]

set_option maxHeartbeats 400000 in
theorem clone_some (x : Addr) (n c : Nat) (f : Nat → Int) (w : World) (hn : n ≤ 1048576) (hc : ∀ k, k < n → w.cell? (x.add k) = some (.int .u8 (f k))) :
    Calls Try.prog 16 #[.slice (some x) n c] w fun e w' => e = .returned (.slice (some ⟨w.heap.size, 0, none⟩) n n) ∧ Owns w' w.heap.size (.slice (some ⟨w.heap.size, 0, none⟩) n n) n f ∧ Below w.heap.size w w' ∧ w.heap.size < w'.heap.size := by
  obtain ⟨b, off, spot⟩ := x
  have hnn := fun w => Lib.run_eql_slice_nil (P := Try.prog) w 22 5 (some ⟨b, off, spot⟩) n c 0 0 Try.underlying22
  have hmk := made n hn
  have HC := hide hc
  clear hc
  go_enter Try.func16, Try.ntmps16
  go_wp2
  clear hnn hmk
  go_loopw [4] (fun i wr => ∃ k : Nat, k ≤ n ∧ i = .int .i64 k ∧ Owns wr w.heap.size (.slice (some ⟨w.heap.size, 0, none⟩) n n) n (fun j => if j < k then f j else 0) ∧ Below w.heap.size w wr ∧ w.heap.size < wr.heap.size) (fun i _ => n - (intOf i).toNat)
  case atStart => exact ⟨0, Nat.zero_le _, rfl, made_owns w n hn, (Below.refl _ _).alloc (Nat.le_refl _) _, by simp⟩
  case round =>
    obtain ⟨k, hk, rfl, ho, hbel, hsz⟩ := hrel
    by_cases hlt : k < n
    · have hcx := HC.out k hlt
      have hspot : spot = none := by simpa [Addr.add] using World.cell?_spot (HC.out 0 (by omega))
      subst hspot
      rw [add_plain] at hcx
      have hbx : b < w.heap.size := block_lt_of_cell hcx
      have hcr : wr.cell? ⟨b, off + k, none⟩ = some (.int .u8 (f k)) := by
        rw [hbel.cell (by exact hbx)]; exact hcx
      have hck := ho.cell hlt
      have hfk := ho.free k
      have HO := hide (ho.set k (f k))
      have HB := hide hbel
      clear hcx ho hbel
      go_wp2
      go_roundw
      case rel =>
        refine ⟨k + 1, by omega, by go_num, HO.out.congr ?_, HB.out.setCell (Nat.le_refl _) _, by simpa [World.setCell] using hsz⟩
        intro j _
        exact fill_step f k j
      case measure => simp [intOf]; omega
    · have HO : Hid (Owns wr w.heap.size (.slice (some ⟨w.heap.size, 0, none⟩) n n) n f) := hide (ho.congr (fun j hj => by rw [if_pos (by omega)]))
      have HB := hide hbel
      clear ho hbel
      go_wp2
      go_ret
      exact ⟨rfl, HO.out, HB.out, hsz⟩

/-! ### zzIsBreak, zzClean -/
def clean (z : Int) : Int := if z = 13 ∨ z = 10 then 32 else z
theorem clean_break {z : Int} (h : z = 13 ∨ z = 10) : clean z = 32 := by unfold clean; rw [if_pos h]
theorem clean_other {z : Int} (h : ¬ (z = 13 ∨ z = 10)) : clean z = z := by unfold clean; rw [if_neg h]

theorem isBreak_any (z : Int) (w : World) :
    Calls Try.prog 24 #[.int .u8 z] w fun e w' => e = .returned (.bool (decide (z = 13 ∨ z = 10))) ∧ w' = w := by
  by_cases h1 : z = 13
  · subst h1
    go_enter Try.func24, Try.ntmps24
    go_wp2
    go_ret
    exact ⟨rfl, rfl⟩
  · have h1' : (z == 13) = false := by rw [beq_eq_false_iff_ne]; exact h1
    by_cases h2 : z = 10
    · subst h2
      go_enter Try.func24, Try.ntmps24
      go_wp2
      go_ret
      exact ⟨rfl, rfl⟩
    · have h2' : (z == 10) = false := by rw [beq_eq_false_iff_ne]; exact h2
      have hd : decide (z = 13 ∨ z = 10) = false := by simp [h1, h2]
      rw [hd]
      clear hd h1 h2
      go_enter Try.func24, Try.ntmps24
      go_wp2
      go_ret
      exact ⟨rfl, rfl⟩

theorem clean_any (z : Int) (w : World) :
    Calls Try.prog 18 #[.int .u8 z] w fun e w' => e = .returned (.int .u8 (clean z)) ∧ w' = w := by
  by_cases h : z = 13 ∨ z = 10
  · have hd : decide (z = 13 ∨ z = 10) = true := by simp [h]
    rw [clean_break h]
    have H := hide (isBreak_any z w)
    rw [hd] at H
    clear hd h
    go_enter Try.func18, Try.ntmps18
    go_wp2_with (go_at_call 24; refine H.out.mono ?_; rintro e w' ⟨rfl, rfl⟩)
    go_ret
    exact ⟨rfl, rfl⟩
  · have hd : decide (z = 13 ∨ z = 10) = false := by simp [h]
    rw [clean_other h]
    have H := hide (isBreak_any z w)
    rw [hd] at H
    clear hd h
    go_enter Try.func18, Try.ntmps18
    go_wp2_with (go_at_call 24; refine H.out.mono ?_; rintro e w' ⟨rfl, rfl⟩)
    go_ret
    exact ⟨rfl, rfl⟩

end Go.Proofs.Qxb6601172a
