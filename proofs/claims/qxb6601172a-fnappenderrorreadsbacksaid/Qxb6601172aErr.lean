import Derived.Test.Qxb6601172aLaw6
namespace Go.Proofs.Qxb6601172a
open Go.ChangeShapes Go.WideShapes Go.ChangeAt Go.RowKit

/-- 'append(v, x)', x one byte: it is laid in a new block first -/
theorem app_byte (x : Int) (w : World) (base : Nat) (v : Value) (n : Nat) (F : Nat → Int) (h : Owns w base v n F) (hb : base ≤ w.heap.size) (hs : n + 1 ≤ 4194304) :
    ∃ a' c' w', (∀ ty, (Builtin.append_ #[22, 22] ty #[v, .slice (some ⟨w.heap.size, 0, none⟩) 1 1]).run Try.prog (w.alloc (.cells #[.int .u8 x] 5)) = .ok (.slice a' (n + 1) c') w') ∧
      Owns w' base (.slice a' (n + 1) c') (n + 1) (join n F (fun _ => x)) ∧ Below base w w' := by
  obtain ⟨i, hi, hz, hsz, hby⟩ := info5parts
  have h' : Owns (w.alloc (.cells #[.int .u8 x] 5)) base v n F := World.ownsRow.alloc (h := h) _
  obtain ⟨v', w', hr, ho, hg, _⟩ := run_append_own (P := Try.prog) (w.alloc (.cells #[.int .u8 x] 5)) base 22 0 5 i (.int .u8 0) 1 1 Try.underlying22 hi hz hsz hby rfl (by decide) v n _ h' ⟨w.heap.size, 0, none⟩ 1 1 [.int .u8 x] rfl
    (by intro j u hj
        match j, hj with
        | 0, hj => simp at hj; subst hj; simp [Addr.add]) (by intro u hu; simp at hu; subst hu; rfl) (by unfold maxLen; omega) (by omega) (by simp; omega)
  have e1 : [Value.int .u8 x] = Z 1 (fun _ => x) := rfl
  rw [e1, Z_append] at ho
  have hty : ∀ ty, (Builtin.append_ #[22, 22] ty #[v, .slice (some ⟨w.heap.size, 0, none⟩) 1 1]).run Try.prog (w.alloc (.cells #[.int .u8 x] 5)) = .ok v' w' := fun ty => hr
  obtain ⟨a', c', rfl⟩ := Owns.shape ho
  exact ⟨a', c', w', hty, ho, ((Below.refl _ _).alloc hb _).grown hg (by simp; omega) (fun k hk => (h'.lt k hk).1)⟩

/-- what is written behind the '-': the code; then, where there is a message, a space and the message cleaned -/
def headOf (code msg : ByteArray) : Nat → Int := fun k => if k < code.size then sb code k else if k = code.size then 32 else clean (sb msg (k - code.size - 1))

/-- what AppendError leaves: block g, from place n on: '-', H bytes h, CR LF -/
structure Reply (w : World) (g n H : Nat) (h : Nat → Int) : Prop where
  dash : w.cell? ⟨g, n, none⟩ = some (.int .u8 45)
  head : ∀ k, k < H → w.cell? ⟨g, n + 1 + k, none⟩ = some (.int .u8 (h k))
  cr : w.cell? ⟨g, n + (H + 1), none⟩ = some (.int .u8 13)
  lf : w.cell? ⟨g, n + (H + 2), none⟩ = some (.int .u8 10)

theorem reply_plain {w : World} {base g n c : Nat} {F : Nat → Int} {code msg : ByteArray} (hm : msg.size = 0)
    (h : Owns w base (.slice (some ⟨g, 0, none⟩) (n + 1 + code.size + msg.size + 2) c) (n + 1 + code.size + msg.size + 2) (lineOf (n + 1 + code.size) (join (n + 1) (join n F (fun _ => 45)) (sb code)) msg)) :
    Reply w g n code.size (headOf code msg) where
  dash := by
    rw [h.cell (j := n) (by omega), line_before _ _ _ _ (by omega)]
    simp [join]
  head := by
    intro k hk
    rw [h.cell (j := n + 1 + k) (by omega), line_before _ _ _ _ (by omega)]
    simp only [join, headOf]
    rw [if_neg (by omega), if_pos hk, Nat.add_sub_cancel_left]
  cr := by
    have := line_cr (n + 1 + code.size) (join (n + 1) (join n F (fun _ => 45)) (sb code)) msg
    rw [h.cell (j := n + (code.size + 1)) (by omega), show n + (code.size + 1) = n + 1 + code.size + msg.size by omega, this]
  lf := by
    have := line_lf (n + 1 + code.size) (join (n + 1) (join n F (fun _ => 45)) (sb code)) msg
    rw [h.cell (j := n + (code.size + 2)) (by omega), show n + (code.size + 2) = n + 1 + code.size + msg.size + 1 by omega, this]

theorem reply_msg {w : World} {base g n c : Nat} {F : Nat → Int} {code msg : ByteArray}
    (h : Owns w base (.slice (some ⟨g, 0, none⟩) (n + 1 + code.size + 1 + msg.size + 2) c) (n + 1 + code.size + 1 + msg.size + 2) (lineOf (n + 1 + code.size + 1) (join (n + 1 + code.size) (join (n + 1) (join n F (fun _ => 45)) (sb code)) (fun _ => 32)) msg)) :
    Reply w g n (code.size + 1 + msg.size) (headOf code msg) where
  dash := by
    rw [h.cell (j := n) (by omega), line_before _ _ _ _ (by omega)]
    simp only [join]
    rw [if_pos (by omega), if_pos (by omega), if_neg (by omega)]
  head := by
    intro k hk
    rw [h.cell (j := n + 1 + k) (by omega)]
    unfold headOf
    by_cases h1 : k < code.size
    · rw [line_before _ _ _ _ (by omega), if_pos h1]
      simp only [join]
      rw [if_pos (by omega), if_neg (by omega), Nat.add_sub_cancel_left]
    · rw [if_neg h1]
      by_cases h2 : k = code.size
      · subst h2
        rw [line_before _ _ _ _ (by omega), if_pos rfl]
        simp only [join]
        rw [if_neg (by omega)]
      · rw [if_neg h2]
        have := line_in (n + 1 + code.size + 1) (join (n + 1 + code.size) (join (n + 1) (join n F (fun _ => 45)) (sb code)) (fun _ => 32)) msg (k - code.size - 1) (by omega)
        rw [show n + 1 + k = n + 1 + code.size + 1 + (k - code.size - 1) by omega, this]
  cr := by
    have := line_cr (n + 1 + code.size + 1) (join (n + 1 + code.size) (join (n + 1) (join n F (fun _ => 45)) (sb code)) (fun _ => 32)) msg
    rw [h.cell (j := n + (code.size + 1 + msg.size + 1)) (by omega), show n + (code.size + 1 + msg.size + 1) = n + 1 + code.size + 1 + msg.size by omega, this]
  lf := by
    have := line_lf (n + 1 + code.size + 1) (join (n + 1 + code.size) (join (n + 1) (join n F (fun _ => 45)) (sb code)) (fun _ => 32)) msg
    rw [h.cell (j := n + (code.size + 1 + msg.size + 2)) (by omega), show n + (code.size + 1 + msg.size + 2) = n + 1 + code.size + 1 + msg.size + 1 by omega, this]

theorem under37 : Try.prog.underlying 37 = some .string := by kernel_rfl

set_option maxHeartbeats 1000000 in
theorem err_plain (a : Option Addr) (n c : Nat) (F : Nat → Int) (code msg : ByteArray) (w : World) (base : Nat) (h : Owns w base (.slice a n c) n F) (hb : base ≤ w.heap.size) (hm : msg.size = 0) (hs : n + code.size + 8 ≤ 4194304) :
    Calls Try.prog 22 #[.slice a n c, .string code, .string msg] w fun e w' => ∃ g c', e = .returned (.slice (some ⟨g, 0, none⟩) (n + (code.size + 3)) c') ∧ n + (code.size + 3) ≤ c' ∧ Reply w' g n code.size (headOf code msg) ∧ Below base w w' := by
  obtain ⟨a1, c1, w1, hr1, ho1, hb1⟩ := app_byte 45 w base (.slice a n c) n F h hb (by omega)
  have hz1 : base ≤ w1.heap.size := Nat.le_trans hb hb1.size
  obtain ⟨a2, c2, w2, hr2, ho2, hg2, _⟩ := app_str 37 under37 w1 base _ _ _ code ho1 hz1 (by omega)
  have hb2 := hb1.grown hg2 hz1 (fun k hk => (ho1.lt k hk).1)
  have hz2 : base ≤ w2.heap.size := Nat.le_trans hb hb2.size
  have HR1 := hide hr1
  have HR2 := hide hr2
  have HO2 := hide ho2
  have HB2 := hide hb2
  have hemp : msg = ⟨#[]⟩ := by
    cases msg with
    | mk d => simp [ByteArray.size] at hm; rw [hm]
  subst hemp
  clear h hr1 ho1 hb1 hr2 ho2 hg2 hb2
  go_enter Try.func22, Try.ntmps22
  go_wp2_with (first | (at_builtin; refine wpList_app_run rfl (.tmp 7) (.tmp 8) 22 22 rfl _ _ _ _ rfl rfl HR1.out ?_) | (at_builtin; refine wpList_app_run rfl (.tmp 10) (.tmp 11) 22 37 rfl _ _ _ _ rfl rfl HR2.out ?_))
  refine (line_any a2 _ c2 _ ⟨#[]⟩ _ base HO2.out hz2 (by rw [hm]; omega)).mono ?_
  rintro e w3 ⟨a3, c3, rfl, ho3, hg3, hn3⟩
  obtain ⟨g, rfl⟩ := ho3.some (by omega)
  have HREP := hide (reply_plain hm ho3)
  have hcap := ho3.cap
  have HB3 := hide (HB2.out.grown hg3 hz2 (fun k hk => (HO2.out.lt k hk).1))
  have e1 : n + 1 + code.size + (ByteArray.mk #[]).size + 2 = n + (code.size + 3) := by rw [hm]; omega
  rw [e1] at hcap ⊢
  clear ho3 hg3 hn3 e1 hm
  go_wp2
  go_ret
  exact ⟨g, c3, rfl, hcap, HREP.out, HB3.out⟩

set_option maxHeartbeats 1000000 in
theorem err_msg (a : Option Addr) (n c : Nat) (F : Nat → Int) (code msg : ByteArray) (w : World) (base : Nat) (h : Owns w base (.slice a n c) n F) (hb : base ≤ w.heap.size) (hm : msg.toList.isEmpty = false) (hs : n + code.size + msg.size + 8 ≤ 4194304) :
    Calls Try.prog 22 #[.slice a n c, .string code, .string msg] w fun e w' => ∃ g c', e = .returned (.slice (some ⟨g, 0, none⟩) (n + (code.size + 1 + msg.size + 3)) c') ∧ n + (code.size + 1 + msg.size + 3) ≤ c' ∧ Reply w' g n (code.size + 1 + msg.size) (headOf code msg) ∧ Below base w w' := by
  obtain ⟨a1, c1, w1, hr1, ho1, hb1⟩ := app_byte 45 w base (.slice a n c) n F h hb (by omega)
  have hz1 : base ≤ w1.heap.size := Nat.le_trans hb hb1.size
  obtain ⟨a2, c2, w2, hr2, ho2, hg2, _⟩ := app_str 37 under37 w1 base _ _ _ code ho1 hz1 (by omega)
  have hb2 := hb1.grown hg2 hz1 (fun k hk => (ho1.lt k hk).1)
  have hz2 : base ≤ w2.heap.size := Nat.le_trans hb hb2.size
  obtain ⟨a3, c3, w3, hr3, ho3, hb3⟩ := app_byte 32 w2 base _ _ _ ho2 hz2 (by omega)
  have hz3 : base ≤ w3.heap.size := Nat.le_trans hz2 hb3.size
  have HR1 := hide hr1
  have HR2 := hide hr2
  have HR3 := hide hr3
  have HO3 := hide ho3
  have HB3 := hide (hb2.trans hb3)
  clear h hr1 ho1 hb1 hr2 ho2 hg2 hb2 hr3 ho3 hb3
  go_enter Try.func22, Try.ntmps22
  go_wp2_with (first | (at_builtin; refine wpList_app_run rfl (.tmp 7) (.tmp 8) 22 22 rfl _ _ _ _ rfl rfl HR1.out ?_) | (at_builtin; refine wpList_app_run rfl (.tmp 10) (.tmp 11) 22 37 rfl _ _ _ _ rfl rfl HR2.out ?_) | (at_builtin; refine wpList_app_run rfl (.tmp 15) (.tmp 16) 22 22 rfl _ _ _ _ rfl rfl HR3.out ?_))
  refine (line_any a3 _ c3 _ msg _ base HO3.out hz3 (by omega)).mono ?_
  rintro e w4 ⟨a4, c4, rfl, ho4, hg4, hn4⟩
  obtain ⟨g, rfl⟩ := ho4.some (by omega)
  have HREP := hide (reply_msg ho4)
  have hcap := ho4.cap
  have HB4 := hide (HB3.out.grown hg4 hz3 (fun k hk => (HO3.out.lt k hk).1))
  have e1 : n + 1 + code.size + 1 + msg.size + 2 = n + (code.size + 1 + msg.size + 3) := by omega
  rw [e1] at hcap ⊢
  clear ho4 hg4 hn4 e1
  go_wp2
  go_ret
  exact ⟨g, c4, rfl, hcap, HREP.out, HB4.out⟩

end Go.Proofs.Qxb6601172a
