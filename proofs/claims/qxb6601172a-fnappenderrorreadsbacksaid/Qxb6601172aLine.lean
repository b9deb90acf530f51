import Derived.Test.Qxb6601172aOwn
namespace Go.Proofs.Qxb6601172a
open Go.ChangeShapes Go.WideShapes Go.ChangeAt Go.RowKit

/-- of the bytes H those from n on, k of them, are cleaned -/
def lineTo (n k : Nat) (H : Nat → Int) : Nat → Int := fun j => if n ≤ j ∧ j < n + k then clean (H j) else H j
theorem lineTo_zero (n : Nat) (H : Nat → Int) (j : Nat) : H j = lineTo n 0 H j := by
  unfold lineTo; rw [if_neg (by omega)]
theorem lineTo_at (n k : Nat) (H : Nat → Int) : lineTo n k H (n + k) = H (n + k) := by
  unfold lineTo; rw [if_neg (by omega)]
theorem lineTo_put (n k : Nat) (H : Nat → Int) (h : H (n + k) = 13 ∨ H (n + k) = 10) (j : Nat) : put (lineTo n k H) (n + k) 32 j = lineTo n (k + 1) H j := by
  simp only [put, lineTo]
  by_cases e : j = n + k
  · subst e; rw [if_pos rfl, if_pos (by omega), clean_break h]
  · rw [if_neg e]
    by_cases e2 : n ≤ j ∧ j < n + k
    · rw [if_pos e2, if_pos (by omega)]
    · rw [if_neg e2, if_neg (by omega)]
theorem lineTo_same (n k : Nat) (H : Nat → Int) (h : ¬ (H (n + k) = 13 ∨ H (n + k) = 10)) (j : Nat) : lineTo n k H j = lineTo n (k + 1) H j := by
  simp only [lineTo]
  by_cases e : j = n + k
  · subst e; rw [if_neg (by omega), if_pos (by omega), clean_other h]
  · by_cases e2 : n ≤ j ∧ j < n + k
    · rw [if_pos e2, if_pos (by omega)]
    · rw [if_neg e2, if_neg (by omega)]

/-- what appendLine leaves: n bytes F, then the string cleaned, then CR LF -/
def lineOf (n : Nat) (F : Nat → Int) (s : ByteArray) : Nat → Int :=
  fun j => if j < n then F j else if j < n + s.size then clean (sb s (j - n)) else if j = n + s.size then 13 else 10

theorem crlf_size : (ByteArray.mk #[13, 10]).size = 2 := rfl
theorem sb_crlf0 : sb ⟨#[13, 10]⟩ 0 = 13 := by decide
theorem sb_crlf1 : sb ⟨#[13, 10]⟩ 1 = 10 := by decide
theorem lineOf_eq (n : Nat) (F : Nat → Int) (s : ByteArray) (j : Nat) (hj : j < n + s.size + 2) :
    join (n + s.size) (lineTo n s.size (join n F (sb s))) (sb ⟨#[13, 10]⟩) j = lineOf n F s j := by
  simp only [join, lineTo, lineOf]
  by_cases h1 : j < n
  · rw [if_pos (by omega), if_neg (by omega), if_pos h1, if_pos h1]
  · by_cases h2 : j < n + s.size
    · rw [if_pos h2, if_pos (by omega), if_neg h1, if_neg h1, if_pos h2]
    · rw [if_neg h2, if_neg h1, if_neg h2]
      by_cases h3 : j = n + s.size
      · rw [if_pos h3, h3, Nat.sub_self, sb_crlf0]
      · rw [if_neg h3, show j - (n + s.size) = 1 by omega, sb_crlf1]

/-- an append whose run is known -/
theorem wpList_app_run {P : Program} {w : World} {ops : Array Oper} {rest : List Oper} {o : Oper} {a : Act} {Q : Exit → Act → World → Prop} (hgd : o.guard = none) (sl x : Operand) (t u : TypeId)
    (ho : o.op = .call { callee := .builtin .append, args := #[sl, x], argTypes := #[t, u] }) (v y v' : Value) (w' : World) (hs : a.eval sl = v) (hx : a.eval x = y)
    (hr : ∀ ty, (Builtin.append_ #[t, u] ty #[v, y]).run P w = .ok v' w') (h : wpList P ops Q rest (a.put o.dst v') w') : wpList P ops Q (o :: rest) a w := by
  refine wpList_plain hgd fun K hK => ?_
  unfold Oper.wp execOp
  simp only [ho, resolve, invoke, builtin, Sem.run_bind, Sem.run_pure, Result.andThen_ok, List.map_toArray, List.map_cons, List.map_nil, hs, hx, hr]
  exact hK _ _ h

set_option maxHeartbeats 1000000 in
theorem line_any (a : Option Addr) (n c : Nat) (F : Nat → Int) (s : ByteArray) (w : World) (base : Nat) (h : Owns w base (.slice a n c) n F) (hb : base ≤ w.heap.size) (hs : n + s.size + 2 ≤ 4194304) :
    Calls Try.prog 27 #[.slice a n c, .string s] w fun e w' => ∃ a' c', e = .returned (.slice a' (n + s.size + 2) c') ∧ Owns w' base (.slice a' (n + s.size + 2) c') (n + s.size + 2) (lineOf n F s) ∧
      w.grownBy w' (Value.slice a n c).ownBlock ∧ Near (.slice a n c) (.slice a' (n + s.size + 2) c') w.heap.size := by
  obtain ⟨a1, c1, w1, hr1, ho1, hg1, hn1⟩ := app_str 9 Try.underlying9 w base (.slice a n c) n F s h hb (by omega)
  have HO1 := hide ho1
  have HG1 := hide hg1
  have HN1 := hide hn1
  have hsz1 : base ≤ w1.heap.size := Nat.le_trans hb hg1.size
  have HR1 := hide hr1
  clear h ho1 hg1 hn1 hr1
  generalize hm : s.size = m at *
  have HM := hide hm
  clear hm
  go_enter Try.func27, Try.ntmps27
  go_wp2_with (at_builtin; refine wpList_app_run rfl (.tmp 9) (.tmp 10) 22 9 rfl _ _ _ _ rfl rfl HR1.out ?_)
  go_loopw [6] (fun i wr => ∃ k : Nat, k ≤ m ∧ i = .int .i64 ((n : Int) + k) ∧ Owns wr base (.slice a1 (n + m) c1) (n + m) (lineTo n k (join n F (sb s))) ∧ w.grownBy wr (Value.slice a n c).ownBlock ∧ base ≤ wr.heap.size) (fun i _ => (n + m) - (intOf i).toNat)
  case atStart => exact ⟨0, Nat.zero_le _, by simp, HO1.out.congr (fun j _ => lineTo_zero _ _ _), HG1.out, hsz1⟩
  case round =>
    obtain ⟨k, hk, rfl, ho, hg, hbr⟩ := hrel
    by_cases hlt : k < m
    · obtain ⟨g, rfl⟩ := ho.some (by omega)
      have hck := ho.cell (j := n + k) (by omega)
      rw [lineTo_at] at hck
      have hfk := ho.free (n + k)
      have HO := hide ho
      have HG := hide hg
      clear ho hg
      generalize hz : join n F (sb s) (n + k) = z at hck
      have HZ := hide hz
      clear hz
      by_cases h13 : z = 13
      · subst h13
        go_wp2
        go_roundw
        case rel => exact ⟨k + 1, by omega, by go_num, (HO.out.set (n + k) 32).congr (fun j _ => lineTo_put n k _ (.inl HZ.out) j), grown_near HG.out HN1.out (HO.out.stored (n + k) _).2, by simpa [World.setCell] using hbr⟩
        case measure => simp [intOf]; omega
      · have h13' : (z == 13) = false := by rw [beq_eq_false_iff_ne]; exact h13
        by_cases h10 : z = 10
        · subst h10
          clear h13
          go_wp2
          go_roundw
          case rel => exact ⟨k + 1, by omega, by go_num, (HO.out.set (n + k) 32).congr (fun j _ => lineTo_put n k _ (.inr HZ.out) j), grown_near HG.out HN1.out (HO.out.stored (n + k) _).2, by simpa [World.setCell] using hbr⟩
          case measure => simp [intOf]; omega
        · have h10' : (z == 10) = false := by rw [beq_eq_false_iff_ne]; exact h10
          have hno := hide (show ¬ (join n F (sb s) (n + k) = 13 ∨ join n F (sb s) (n + k) = 10) by rw [HZ.out]; omega)
          clear h13 h10
          go_wp2
          go_roundw
          case rel => exact ⟨k + 1, by omega, by go_num, HO.out.congr (fun j _ => lineTo_same n k _ hno.out j), HG.out, hbr⟩
          case measure => simp [intOf]; omega
    · obtain rfl : k = m := by omega
      obtain ⟨a2, c2, w2, hr2, ho2, hg2, hn2⟩ := app_str 9 Try.underlying9 wr base (.slice a1 (n + k) c1) (n + k) _ ⟨#[13, 10]⟩ ho hbr (by rw [crlf_size]; omega)
      rw [crlf_size] at hr2 ho2 hn2
      have HR2 := hide hr2
      have HO2 := hide ho2
      have HG2 := hide (grown_near hg HN1.out hg2)
      have HN2 := hide (HN1.out.trans hn2 hg.size)
      clear hr2 ho2 hg2 hn2 ho hg
      go_wp2_with (at_builtin; refine wpList_app_run rfl (.tmp 34) (.const (.string ⟨#[13, 10]⟩)) 22 9 rfl _ _ _ _ rfl rfl HR2.out ?_)
      go_ret
      refine ⟨a2, c2, rfl, HO2.out.congr ?_, HG2.out, HN2.out⟩
      intro j hj
      have hm := HM.out
      subst hm
      exact lineOf_eq n F s j hj

theorem zzline_any (a : Option Addr) (n c : Nat) (F : Nat → Int) (s : ByteArray) (w : World) (base : Nat) (h : Owns w base (.slice a n c) n F) (hb : base ≤ w.heap.size) (hs : n + s.size + 2 ≤ 4194304) :
    Calls Try.prog 17 #[.slice a n c, .string s] w fun e w' => ∃ a' c', e = .returned (.slice a' (n + s.size + 2) c') ∧ Owns w' base (.slice a' (n + s.size + 2) c') (n + s.size + 2) (lineOf n F s) ∧
      w.grownBy w' (Value.slice a n c).ownBlock ∧ Near (.slice a n c) (.slice a' (n + s.size + 2) c') w.heap.size := by
  have H := hide h
  clear h
  go_enter Try.func17, Try.ntmps17
  go_wp2_with (go_at_call 27; refine (line_any a n c F s _ base H.out hb hs).mono ?_; rintro e w' ⟨a', c', rfl, h1, h2, h3⟩)
  go_ret
  exact ⟨a', c', rfl, h1, h2, h3⟩

end Go.Proofs.Qxb6601172a
