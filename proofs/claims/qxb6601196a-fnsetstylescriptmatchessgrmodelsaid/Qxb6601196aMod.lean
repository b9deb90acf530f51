import Derived.Test.Qxb6601196aRun
namespace Go.Proofs.Qxb6601196a
open Go.ChangeShapes Go.WideShapes Go.ChangeAt Go.RowKit Go.Deep
set_option linter.unusedVariables false

/-- the style stands in block X, the result's cells behind it -/
structure Sgm (w wr : World) (X : Nat) (s : Sty) : Prop where
  sg : Sgr w wr X s
  rs : StyIn wr (X + 1) Sty.zero
theorem Sgm.lt {w wr : World} {X : Nat} {s : Sty} (h : Sgm w wr X s) : X + 1 < wr.heap.size := (Array.getElem?_eq_some_iff.1 h.rs).1
theorem Sgm.alloc {w wr : World} {X : Nat} {s : Sty} (h : Sgm w wr X s) (o : Obj) : Sgm w (wr.alloc o) X s :=
  ⟨h.sg.alloc o, by show (wr.alloc o).heap[X + 1]? = _; rw [Below.heap_alloc _ _ _ h.lt]; exact h.rs⟩
theorem Sgm.below {w wr w' : World} {X : Nat} {s : Sty} (h : Sgm w wr X s) (hb : Below wr.heap.size wr w') : Sgm w w' X s :=
  ⟨h.sg.below hb, by show w'.heap[X + 1]? = _; rw [hb.block _ h.lt]; exact h.rs⟩
theorem Sgm.set {w wr : World} {X : Nat} {s t : Sty} (h : Sgm w wr X s) (i : Nat) (v : Value) (ht : (styC s).set! i v = styC t) : Sgm w (wr.setCell ⟨X, i, none⟩ v) X t :=
  ⟨h.sg.set i v ht, by show (wr.setCell ⟨X, i, none⟩ v).heap[X + 1]? = _; rw [heap_setCell_other _ _ _ _ (by show X + 1 ≠ X; omega)]; exact h.rs⟩
theorem Sgm.fg {w wr : World} {X : Nat} {s : Sty} (h : Sgm w wr X s) (k i r g b : Int) :
    Sgm w (((((wr.setCell ⟨X, 0, none⟩ (.int .u8 k)).setCell ⟨X, 1, none⟩ (.int .u8 i)).setCell ⟨X, 2, none⟩ (.int .u8 r)).setCell ⟨X, 3, none⟩ (.int .u8 g)).setCell ⟨X, 4, none⟩ (.int .u8 b)) X { s with fg := (k, i, r, g, b) } :=
  ((((h.set 0 _ (t := { s with fg := (k, s.fg.2) }) rfl).set 1 _ (t := { s with fg := (k, i, s.fg.2.2) }) rfl).set 2 _ (t := { s with fg := (k, i, r, s.fg.2.2.2) }) rfl).set 3 _ (t := { s with fg := (k, i, r, g, s.fg.2.2.2.2) }) rfl).set 4 _ rfl
theorem Sgm.bg {w wr : World} {X : Nat} {s : Sty} (h : Sgm w wr X s) (k i r g b : Int) :
    Sgm w (((((wr.setCell ⟨X, 5, none⟩ (.int .u8 k)).setCell ⟨X, 6, none⟩ (.int .u8 i)).setCell ⟨X, 7, none⟩ (.int .u8 r)).setCell ⟨X, 8, none⟩ (.int .u8 g)).setCell ⟨X, 9, none⟩ (.int .u8 b)) X { s with bg := (k, i, r, g, b) } :=
  ((((h.set 5 _ (t := { s with bg := (k, s.bg.2) }) rfl).set 6 _ (t := { s with bg := (k, i, s.bg.2.2) }) rfl).set 7 _ (t := { s with bg := (k, i, r, s.bg.2.2.2) }) rfl).set 8 _ (t := { s with bg := (k, i, r, g, s.bg.2.2.2.2) }) rfl).set 9 _ rfl
theorem Sgm.clear {w wr : World} {X : Nat} {s : Sty} (h : Sgm w wr X s) :
    Sgm w ((((((((((((((wr.setCell ⟨X, 0, none⟩ (.int .u8 0)).setCell ⟨X, 1, none⟩ (.int .u8 0)).setCell ⟨X, 2, none⟩ (.int .u8 0)).setCell ⟨X, 3, none⟩ (.int .u8 0)).setCell ⟨X, 4, none⟩ (.int .u8 0)).setCell ⟨X, 5, none⟩ (.int .u8 0)).setCell ⟨X, 6, none⟩ (.int .u8 0)).setCell ⟨X, 7, none⟩ (.int .u8 0)).setCell ⟨X, 8, none⟩ (.int .u8 0)).setCell ⟨X, 9, none⟩ (.int .u8 0)).setCell ⟨X, 10, none⟩ (.bool false)).setCell ⟨X, 11, none⟩ (.bool false)).setCell ⟨X, 12, none⟩ (.bool false)).setCell ⟨X, 13, none⟩ (.bool false)) X Sty.zero :=
  (((((h.fg 0 0 0 0 0).bg 0 0 0 0 0).set 10 _ (t := ⟨Col.zero, Col.zero, false, s.di, s.it, s.ul⟩) rfl).set 11 _ (t := ⟨Col.zero, Col.zero, false, false, s.it, s.ul⟩) rfl).set 12 _ (t := ⟨Col.zero, Col.zero, false, false, false, s.ul⟩) rfl).set 13 _ rfl

theorem heap_top (w : World) (o : Obj) : (w.alloc o).heap[w.heap.size]? = some o := by
  show (w.heap.push _)[w.heap.size]? = _
  simp
theorem start22 (w : World) (s0 : Sty) : Sgm w ((w.alloc (.cells (styC s0) 59)).alloc (.cells (styC Sty.zero) 59)) w.heap.size s0 := by
  have h1 : (w.alloc (.cells (styC s0) 59)).heap.size = w.heap.size + 1 := by simp
  have h2 := heap_top (w.alloc (.cells (styC s0) 59)) (.cells (styC Sty.zero) 59)
  rw [h1] at h2
  refine ⟨⟨?_, ((Below.refl _ _).alloc (Nat.le_refl _) _).alloc (by rw [h1]; omega) _⟩, h2⟩
  show ((w.alloc (.cells (styC s0) 59)).alloc (.cells (styC Sty.zero) 59)).heap[w.heap.size]? = _
  rw [Below.heap_alloc _ _ _ (by rw [h1]; omega)]
  exact heap_top w _
theorem StyIn.whole {w : World} {Y : Nat} {z : Sty} (h : StyIn w Y z) (t : Sty) :
    StyIn ((((((((((((((w.setCell ⟨Y, 0, none⟩ (.int .u8 t.fg.1)).setCell ⟨Y, 1, none⟩ (.int .u8 t.fg.2.1)).setCell ⟨Y, 2, none⟩ (.int .u8 t.fg.2.2.1)).setCell ⟨Y, 3, none⟩ (.int .u8 t.fg.2.2.2.1)).setCell ⟨Y, 4, none⟩ (.int .u8 t.fg.2.2.2.2)).setCell ⟨Y, 5, none⟩ (.int .u8 t.bg.1)).setCell ⟨Y, 6, none⟩ (.int .u8 t.bg.2.1)).setCell ⟨Y, 7, none⟩ (.int .u8 t.bg.2.2.1)).setCell ⟨Y, 8, none⟩ (.int .u8 t.bg.2.2.2.1)).setCell ⟨Y, 9, none⟩ (.int .u8 t.bg.2.2.2.2)).setCell ⟨Y, 10, none⟩ (.bool t.bo)).setCell ⟨Y, 11, none⟩ (.bool t.di)).setCell ⟨Y, 12, none⟩ (.bool t.it)).setCell ⟨Y, 13, none⟩ (.bool t.ul)) Y t :=
  (((((((((((((h.set 0 _ (t := { z with fg := (t.fg.1, z.fg.2) }) rfl).set 1 _ (t := { z with fg := (t.fg.1, t.fg.2.1, z.fg.2.2) }) rfl).set 2 _ (t := { z with fg := (t.fg.1, t.fg.2.1, t.fg.2.2.1, z.fg.2.2.2) }) rfl).set 3 _ (t := { z with fg := (t.fg.1, t.fg.2.1, t.fg.2.2.1, t.fg.2.2.2.1, z.fg.2.2.2.2) }) rfl).set 4 _ (t := { z with fg := t.fg }) rfl).set 5 _ (t := { z with fg := t.fg, bg := (t.bg.1, z.bg.2) }) rfl).set 6 _ (t := { z with fg := t.fg, bg := (t.bg.1, t.bg.2.1, z.bg.2.2) }) rfl).set 7 _ (t := { z with fg := t.fg, bg := (t.bg.1, t.bg.2.1, t.bg.2.2.1, z.bg.2.2.2) }) rfl).set 8 _ (t := { z with fg := t.fg, bg := (t.bg.1, t.bg.2.1, t.bg.2.2.1, t.bg.2.2.2.1, z.bg.2.2.2.2) }) rfl).set 9 _ (t := { z with fg := t.fg, bg := t.bg }) rfl).set 10 _ (t := { z with fg := t.fg, bg := t.bg, bo := t.bo }) rfl).set 11 _ (t := { z with fg := t.fg, bg := t.bg, bo := t.bo, di := t.di }) rfl).set 12 _ (t := { t with ul := z.ul }) rfl).set 13 _ rfl
theorem res22 (w9 : World) (Y : Nat) (s : Sty) (h : StyIn w9 Y s) (tmps : Array Value) (ht : tmps.getD 4 undef = .pointer (some ⟨Y, 0, none⟩)) : (results Try.f22 tmps).run Try.prog w9 = .ok (styV s) w9 := by
  have hat := h.at
  have k0 := hat.c0
  have k1 := hat.c1
  have k2 := hat.c2
  have k3 := hat.c3
  have k4 := hat.c4
  have k5 := hat.c5
  have k6 := hat.c6
  have k7 := hat.c7
  have k8 := hat.c8
  have k9 := hat.c9
  have k10 := hat.c10
  have k11 := hat.c11
  have k12 := hat.c12
  have k13 := hat.c13
  simp at ht k0 k1 k2 k3 k4 k5 k6 k7 k8 k9 k10 k11 k12 k13
  simp [results, Try.results22, go_sem, styV, styC, ht, k0, k1, k2, k3, k4, k5, k6, k7, k8, k9, k10, k11, k12, k13]

set_option maxRecDepth 100000 in
set_option maxHeartbeats 40000000 in
/-- sgrModelB1 -/
theorem model_any (a : Option Addr) (n cb : Nat) (f : Nat → Int) (s0 : Sty) (w : World) (hc : Codes w a n cb f) (hn : n ≤ 1048576) :
    Calls Try.prog 22 #[styV s0, .slice a n n] w fun e w' => e = .returned (styV (runS f n 0 s0)) ∧ Below w.heap.size w w' := by
  have HC := hide hc
  clear hc
  simp only [styV, styC]
  go_enter Try.func22, Try.ntmps22
  go_wp2_with fail
  go_loopw [5] (fun i wr => ∃ (j : Nat) (s : Sty), j ≤ n ∧ i = .int .i64 j ∧ runS f n j s = runS f n 0 s0 ∧ Sgm w wr w.heap.size s) (fun i _ => n - (intOf i).toNat)
  case atStart =>
    exact ⟨0, s0, Nat.zero_le _, rfl, rfl, start22 w s0⟩
  case round =>
    obtain ⟨j, s, hj, rfl, hrun, hsg⟩ := hrel
    by_cases hlt : j < n
    · obtain rfl := HC.out.adr (by omega)
      have hcb := HC.out.lt (by omega)
      have d1 : wr.cell? ⟨cb, j, none⟩ = some (.int .i64 (f j)) := by rw [hsg.sg.bel.cell hcb]; exact HC.out.cel j hlt
      have hcX : cb ≠ w.heap.size := by omega
      have hXl := hsg.lt
      have hcl : cb < wr.heap.size := by omega
      have hat := hsg.sg.st.at
      have y0 := hat.c0
      have y1 := hat.c1
      have y2 := hat.c2
      have y3 := hat.c3
      have y4 := hat.c4
      have y5 := hat.c5
      have y6 := hat.c6
      have y7 := hat.c7
      have y8 := hat.c8
      have y9 := hat.c9
      have y10 := hat.c10
      have y11 := hat.c11
      have y12 := hat.c12
      have y13 := hat.c13
      have yf := hat.fr
      have hnx := next_code f n j s (fun s' m => j + 1 + m ≤ n ∧ runS f n (j + 1 + m) s' = runS f n 0 s0) ⟨codeN_le f n j hlt, by rw [← runS_step f n j s hlt]; exact hrun⟩
      have HS := hide hsg
      have HN := hide hnx
      clear hat hsg hrun hnx
      obtain ⟨c, hc⟩ : ∃ c, c = f j := ⟨_, rfl⟩
      rw [← hc] at d1 HN
      have hlt' : (j : Int) < (n : Int) := by omega
      have hj0 : (0 : Int) ≤ (j : Int) := by omega
      by_cases e0 : c = 0
      · have hx := HN.out.1 e0
        rw [e0] at d1
        have HX := hide hx
        clear hc HN hx
        go_wp2_with fail
        go_roundw
        case rel => exact ⟨j + 1 + 0, _, HX.out.1, by go_num, HX.out.2, HS.out.clear⟩
        case measure => simp [intOf] <;> omega
      by_cases e1 : c = 1
      · as_aux_lemma =>
        have hx := HN.out.2.1 e1
        rw [e1] at d1
        have HX := hide hx
        clear hc HN hx
        go_wp2_with fail
        go_roundw
        case rel => exact ⟨j + 1 + 0, _, HX.out.1, by go_num, HX.out.2, HS.out.set 10 _ rfl⟩
        case measure => simp [intOf] <;> omega
      by_cases e2 : c = 2
      · as_aux_lemma =>
        have hx := HN.out.2.2.1 e2
        rw [e2] at d1
        have HX := hide hx
        clear hc HN hx
        go_wp2_with fail
        go_roundw
        case rel => exact ⟨j + 1 + 0, _, HX.out.1, by go_num, HX.out.2, HS.out.set 11 _ rfl⟩
        case measure => simp [intOf] <;> omega
      by_cases e3 : c = 3
      · as_aux_lemma =>
        have hx := HN.out.2.2.2.1 e3
        rw [e3] at d1
        have HX := hide hx
        clear hc HN hx
        go_wp2_with fail
        go_roundw
        case rel => exact ⟨j + 1 + 0, _, HX.out.1, by go_num, HX.out.2, HS.out.set 12 _ rfl⟩
        case measure => simp [intOf] <;> omega
      by_cases e4 : c = 4
      · as_aux_lemma =>
        have hx := HN.out.2.2.2.2.1 e4
        rw [e4] at d1
        have HX := hide hx
        clear hc HN hx
        go_wp2_with fail
        go_roundw
        case rel => exact ⟨j + 1 + 0, _, HX.out.1, by go_num, HX.out.2, HS.out.set 13 _ rfl⟩
        case measure => simp [intOf] <;> omega
      by_cases e22 : c = 22
      · as_aux_lemma =>
        have hx := HN.out.2.2.2.2.2.1 e22
        rw [e22] at d1
        have HX := hide hx
        clear hc HN hx
        go_wp2_with fail
        go_roundw
        case rel => exact ⟨j + 1 + 0, _, HX.out.1, by go_num, HX.out.2, (HS.out.set 10 _ (t := { s with bo := false }) rfl).set 11 _ rfl⟩
        case measure => simp [intOf] <;> omega
      by_cases e23 : c = 23
      · as_aux_lemma =>
        have hx := HN.out.2.2.2.2.2.2.1 e23
        rw [e23] at d1
        have HX := hide hx
        clear hc HN hx
        go_wp2_with fail
        go_roundw
        case rel => exact ⟨j + 1 + 0, _, HX.out.1, by go_num, HX.out.2, HS.out.set 12 _ rfl⟩
        case measure => simp [intOf] <;> omega
      by_cases e24 : c = 24
      · as_aux_lemma =>
        have hx := HN.out.2.2.2.2.2.2.2.1 e24
        rw [e24] at d1
        have HX := hide hx
        clear hc HN hx
        go_wp2_with fail
        go_roundw
        case rel => exact ⟨j + 1 + 0, _, HX.out.1, by go_num, HX.out.2, HS.out.set 13 _ rfl⟩
        case measure => simp [intOf] <;> omega
      by_cases e39 : c = 39
      · as_aux_lemma =>
        have hx := HN.out.2.2.2.2.2.2.2.2.1 e39
        rw [e39] at d1
        have HX := hide hx
        clear hc HN hx
        go_wp2_with fail
        go_roundw
        case rel => exact ⟨j + 1 + 0, _, HX.out.1, by go_num, HX.out.2, HS.out.fg 0 0 0 0 0⟩
        case measure => simp [intOf] <;> omega
      by_cases e49 : c = 49
      · as_aux_lemma =>
        have hx := HN.out.2.2.2.2.2.2.2.2.2.1 e49
        rw [e49] at d1
        have HX := hide hx
        clear hc HN hx
        go_wp2_with fail
        go_roundw
        case rel => exact ⟨j + 1 + 0, _, HX.out.1, by go_num, HX.out.2, HS.out.bg 0 0 0 0 0⟩
        case measure => simp [intOf] <;> omega
      by_cases e38 : c = 38
      · as_aux_lemma =>
        have hx := HN.out.2.2.2.2.2.2.2.2.2.2.1 e38
        rw [e38] at d1
        clear hc HN e0
        by_cases hjn : n = j + 1
        · subst hjn
          have hE0 : extAt f (j + 1) j = (Col.zero, 0) := by unfold extAt ext; rw [if_pos (by omega)]
          rw [hE0] at hx
          have hext := zzext_any (some ⟨cb, 0, none⟩) 0 0 f wr (by omega) (fun h => absurd h (by omega))
          have hE1 : ext f 0 = (Col.zero, 0) := rfl
          rw [hE1] at hext
          simp only [colV, Col.zero, if_true] at hext hx
          have HX := hide hx
          have HE := hide hext
          clear hx hext hE0 hE1
          go_wp2_with fail
          refine (inBand_no 38 30 _ (by omega) (by omega)).mono ?_
          rintro e w30 ⟨rfl, rfl⟩
          go_wp2_with fail
          refine (inBand_no 38 90 _ (by omega) (by omega)).mono ?_
          rintro e w90 ⟨rfl, rfl⟩
          go_wp2_with fail
          refine (inBand_no 38 40 _ (by omega) (by omega)).mono ?_
          rintro e w40 ⟨rfl, rfl⟩
          go_wp2_with fail
          refine (inBand_no 38 100 _ (by omega) (by omega)).mono ?_
          rintro e w100 ⟨rfl, rfl⟩
          go_wp2_with fail
          refine HE.out.mono ?_
          rintro e w1 ⟨rfl, hb⟩
          have HS1 := hide (HS.out.below hb)
          have hs1 := hb.size
          have hXl1 : w.heap.size < w1.heap.size := Nat.lt_of_succ_lt HS1.out.lt
          have hat1 := HS1.out.sg.st.at
          have y0 := hat1.c0
          have y1 := hat1.c1
          have y2 := hat1.c2
          have y3 := hat1.c3
          have y4 := hat1.c4
          have y5 := hat1.c5
          have y6 := hat1.c6
          have y7 := hat1.c7
          have y8 := hat1.c8
          have y9 := hat1.c9
          have y10 := hat1.c10
          have y11 := hat1.c11
          have y12 := hat1.c12
          have y13 := hat1.c13
          have yf := hat1.fr
          clear hb hat1
          go_wp2_with fail
          go_roundw
          case rel => exact ⟨j + 1 + 0, _, HX.out.1, by go_num, HX.out.2, HS1.out.alloc _⟩
          case measure => simp [intOf] <;> omega
        · have hext := zzext_any (some ⟨cb, j + 1, none⟩) (n - (j + 1)) (n - (j + 1)) (fun k => f (j + 1 + k)) wr (by omega) (fun _ => ⟨cb, j + 1, rfl, fun k hk => by rw [HS.out.sg.bel.cell hcb]; exact HC.out.cel _ (by omega)⟩)
          have hle := ext_le (fun k => f (j + 1 + k)) (n - (j + 1))
          unfold extAt at hx
          generalize ext (fun k => f (j + 1 + k)) (n - (j + 1)) = E at hext hx hle
          obtain ⟨⟨k, i, r, g, b⟩, u⟩ := E
          simp only [colV] at hext hx hle
          by_cases hk : k = 0
          · subst hk
            rw [if_pos rfl] at hx
            have HX := hide hx
            have HE := hide hext
            clear hx hext
            go_wp2_with fail
            refine (inBand_no 38 30 _ (by omega) (by omega)).mono ?_
            rintro e w30 ⟨rfl, rfl⟩
            go_wp2_with fail
            refine (inBand_no 38 90 _ (by omega) (by omega)).mono ?_
            rintro e w90 ⟨rfl, rfl⟩
            go_wp2_with fail
            refine (inBand_no 38 40 _ (by omega) (by omega)).mono ?_
            rintro e w40 ⟨rfl, rfl⟩
            go_wp2_with fail
            refine (inBand_no 38 100 _ (by omega) (by omega)).mono ?_
            rintro e w100 ⟨rfl, rfl⟩
            go_wp2_with fail
            refine HE.out.mono ?_
            rintro e w1 ⟨rfl, hb⟩
            have HS1 := hide (HS.out.below hb)
            have hs1 := hb.size
            have hXl1 : w.heap.size < w1.heap.size := Nat.lt_of_succ_lt HS1.out.lt
            have hat1 := HS1.out.sg.st.at
            have y0 := hat1.c0
            have y1 := hat1.c1
            have y2 := hat1.c2
            have y3 := hat1.c3
            have y4 := hat1.c4
            have y5 := hat1.c5
            have y6 := hat1.c6
            have y7 := hat1.c7
            have y8 := hat1.c8
            have y9 := hat1.c9
            have y10 := hat1.c10
            have y11 := hat1.c11
            have y12 := hat1.c12
            have y13 := hat1.c13
            have yf := hat1.fr
            clear hb hat1
            go_wp2_with fail
            go_roundw
            case rel => exact ⟨j + 1 + u, _, HX.out.1, by go_num, HX.out.2, HS1.out.alloc _⟩
            case measure => simp [intOf] <;> omega
          · rw [if_neg hk] at hx
            have hk0 : (k == 0) = false := by rw [beq_eq_false_iff_ne]; exact hk
            have HX := hide hx
            have HE := hide hext
            clear hx hext
            go_wp2_with fail
            refine (inBand_no 38 30 _ (by omega) (by omega)).mono ?_
            rintro e w30 ⟨rfl, rfl⟩
            go_wp2_with fail
            refine (inBand_no 38 90 _ (by omega) (by omega)).mono ?_
            rintro e w90 ⟨rfl, rfl⟩
            go_wp2_with fail
            refine (inBand_no 38 40 _ (by omega) (by omega)).mono ?_
            rintro e w40 ⟨rfl, rfl⟩
            go_wp2_with fail
            refine (inBand_no 38 100 _ (by omega) (by omega)).mono ?_
            rintro e w100 ⟨rfl, rfl⟩
            go_wp2_with fail
            refine HE.out.mono ?_
            rintro e w1 ⟨rfl, hb⟩
            have HS1 := hide (HS.out.below hb)
            have hs1 := hb.size
            have hXl1 : w.heap.size < w1.heap.size := Nat.lt_of_succ_lt HS1.out.lt
            have hat1 := HS1.out.sg.st.at
            have y0 := hat1.c0
            have y1 := hat1.c1
            have y2 := hat1.c2
            have y3 := hat1.c3
            have y4 := hat1.c4
            have y5 := hat1.c5
            have y6 := hat1.c6
            have y7 := hat1.c7
            have y8 := hat1.c8
            have y9 := hat1.c9
            have y10 := hat1.c10
            have y11 := hat1.c11
            have y12 := hat1.c12
            have y13 := hat1.c13
            have yf := hat1.fr
            clear hb hat1
            go_wp2_with fail
            go_roundw
            case rel => exact ⟨j + 1 + u, _, HX.out.1, by go_num, HX.out.2, (HS1.out.fg k i r g b).alloc _⟩
            case measure => simp [intOf] <;> omega
      by_cases e48 : c = 48
      · as_aux_lemma =>
        have hx := HN.out.2.2.2.2.2.2.2.2.2.2.2.1 e48
        rw [e48] at d1
        clear hc HN e0
        by_cases hjn : n = j + 1
        · subst hjn
          have hE0 : extAt f (j + 1) j = (Col.zero, 0) := by unfold extAt ext; rw [if_pos (by omega)]
          rw [hE0] at hx
          have hext := zzext_any (some ⟨cb, 0, none⟩) 0 0 f wr (by omega) (fun h => absurd h (by omega))
          have hE1 : ext f 0 = (Col.zero, 0) := rfl
          rw [hE1] at hext
          simp only [colV, Col.zero, if_true] at hext hx
          have HX := hide hx
          have HE := hide hext
          clear hx hext hE0 hE1
          go_wp2_with fail
          refine (inBand_no 48 30 _ (by omega) (by omega)).mono ?_
          rintro e w30 ⟨rfl, rfl⟩
          go_wp2_with fail
          refine (inBand_no 48 90 _ (by omega) (by omega)).mono ?_
          rintro e w90 ⟨rfl, rfl⟩
          go_wp2_with fail
          refine (inBand_no 48 40 _ (by omega) (by omega)).mono ?_
          rintro e w40 ⟨rfl, rfl⟩
          go_wp2_with fail
          refine (inBand_no 48 100 _ (by omega) (by omega)).mono ?_
          rintro e w100 ⟨rfl, rfl⟩
          go_wp2_with fail
          refine HE.out.mono ?_
          rintro e w1 ⟨rfl, hb⟩
          have HS1 := hide (HS.out.below hb)
          have hs1 := hb.size
          have hXl1 : w.heap.size < w1.heap.size := Nat.lt_of_succ_lt HS1.out.lt
          have hat1 := HS1.out.sg.st.at
          have y0 := hat1.c0
          have y1 := hat1.c1
          have y2 := hat1.c2
          have y3 := hat1.c3
          have y4 := hat1.c4
          have y5 := hat1.c5
          have y6 := hat1.c6
          have y7 := hat1.c7
          have y8 := hat1.c8
          have y9 := hat1.c9
          have y10 := hat1.c10
          have y11 := hat1.c11
          have y12 := hat1.c12
          have y13 := hat1.c13
          have yf := hat1.fr
          clear hb hat1
          go_wp2_with fail
          go_roundw
          case rel => exact ⟨j + 1 + 0, _, HX.out.1, by go_num, HX.out.2, HS1.out.alloc _⟩
          case measure => simp [intOf] <;> omega
        · have hext := zzext_any (some ⟨cb, j + 1, none⟩) (n - (j + 1)) (n - (j + 1)) (fun k => f (j + 1 + k)) wr (by omega) (fun _ => ⟨cb, j + 1, rfl, fun k hk => by rw [HS.out.sg.bel.cell hcb]; exact HC.out.cel _ (by omega)⟩)
          have hle := ext_le (fun k => f (j + 1 + k)) (n - (j + 1))
          unfold extAt at hx
          generalize ext (fun k => f (j + 1 + k)) (n - (j + 1)) = E at hext hx hle
          obtain ⟨⟨k, i, r, g, b⟩, u⟩ := E
          simp only [colV] at hext hx hle
          by_cases hk : k = 0
          · subst hk
            rw [if_pos rfl] at hx
            have HX := hide hx
            have HE := hide hext
            clear hx hext
            go_wp2_with fail
            refine (inBand_no 48 30 _ (by omega) (by omega)).mono ?_
            rintro e w30 ⟨rfl, rfl⟩
            go_wp2_with fail
            refine (inBand_no 48 90 _ (by omega) (by omega)).mono ?_
            rintro e w90 ⟨rfl, rfl⟩
            go_wp2_with fail
            refine (inBand_no 48 40 _ (by omega) (by omega)).mono ?_
            rintro e w40 ⟨rfl, rfl⟩
            go_wp2_with fail
            refine (inBand_no 48 100 _ (by omega) (by omega)).mono ?_
            rintro e w100 ⟨rfl, rfl⟩
            go_wp2_with fail
            refine HE.out.mono ?_
            rintro e w1 ⟨rfl, hb⟩
            have HS1 := hide (HS.out.below hb)
            have hs1 := hb.size
            have hXl1 : w.heap.size < w1.heap.size := Nat.lt_of_succ_lt HS1.out.lt
            have hat1 := HS1.out.sg.st.at
            have y0 := hat1.c0
            have y1 := hat1.c1
            have y2 := hat1.c2
            have y3 := hat1.c3
            have y4 := hat1.c4
            have y5 := hat1.c5
            have y6 := hat1.c6
            have y7 := hat1.c7
            have y8 := hat1.c8
            have y9 := hat1.c9
            have y10 := hat1.c10
            have y11 := hat1.c11
            have y12 := hat1.c12
            have y13 := hat1.c13
            have yf := hat1.fr
            clear hb hat1
            go_wp2_with fail
            go_roundw
            case rel => exact ⟨j + 1 + u, _, HX.out.1, by go_num, HX.out.2, HS1.out.alloc _⟩
            case measure => simp [intOf] <;> omega
          · rw [if_neg hk] at hx
            have hk0 : (k == 0) = false := by rw [beq_eq_false_iff_ne]; exact hk
            have HX := hide hx
            have HE := hide hext
            clear hx hext
            go_wp2_with fail
            refine (inBand_no 48 30 _ (by omega) (by omega)).mono ?_
            rintro e w30 ⟨rfl, rfl⟩
            go_wp2_with fail
            refine (inBand_no 48 90 _ (by omega) (by omega)).mono ?_
            rintro e w90 ⟨rfl, rfl⟩
            go_wp2_with fail
            refine (inBand_no 48 40 _ (by omega) (by omega)).mono ?_
            rintro e w40 ⟨rfl, rfl⟩
            go_wp2_with fail
            refine (inBand_no 48 100 _ (by omega) (by omega)).mono ?_
            rintro e w100 ⟨rfl, rfl⟩
            go_wp2_with fail
            refine HE.out.mono ?_
            rintro e w1 ⟨rfl, hb⟩
            have HS1 := hide (HS.out.below hb)
            have hs1 := hb.size
            have hXl1 : w.heap.size < w1.heap.size := Nat.lt_of_succ_lt HS1.out.lt
            have hat1 := HS1.out.sg.st.at
            have y0 := hat1.c0
            have y1 := hat1.c1
            have y2 := hat1.c2
            have y3 := hat1.c3
            have y4 := hat1.c4
            have y5 := hat1.c5
            have y6 := hat1.c6
            have y7 := hat1.c7
            have y8 := hat1.c8
            have y9 := hat1.c9
            have y10 := hat1.c10
            have y11 := hat1.c11
            have y12 := hat1.c12
            have y13 := hat1.c13
            have yf := hat1.fr
            clear hb hat1
            go_wp2_with fail
            go_roundw
            case rel => exact ⟨j + 1 + u, _, HX.out.1, by go_num, HX.out.2, (HS1.out.bg k i r g b).alloc _⟩
            case measure => simp [intOf] <;> omega
      have q0 : (c == 0) = false := by rw [beq_eq_false_iff_ne]; exact e0
      have q1 : (c == 1) = false := by rw [beq_eq_false_iff_ne]; exact e1
      have q2 : (c == 2) = false := by rw [beq_eq_false_iff_ne]; exact e2
      have q3 : (c == 3) = false := by rw [beq_eq_false_iff_ne]; exact e3
      have q4 : (c == 4) = false := by rw [beq_eq_false_iff_ne]; exact e4
      have q22 : (c == 22) = false := by rw [beq_eq_false_iff_ne]; exact e22
      have q23 : (c == 23) = false := by rw [beq_eq_false_iff_ne]; exact e23
      have q24 : (c == 24) = false := by rw [beq_eq_false_iff_ne]; exact e24
      have q39 : (c == 39) = false := by rw [beq_eq_false_iff_ne]; exact e39
      have q49 : (c == 49) = false := by rw [beq_eq_false_iff_ne]; exact e49
      have q38 : (c == 38) = false := by rw [beq_eq_false_iff_ne]; exact e38
      have q48 : (c == 48) = false := by rw [beq_eq_false_iff_ne]; exact e48
      by_cases b30 : 30 ≤ c ∧ c ≤ 37
      · as_aux_lemma =>
        obtain ⟨b1, b2⟩ := b30
        have hx := HN.out.2.2.2.2.2.2.2.2.2.2.2.2.1 b1 b2
        have hm : c - 30 = c % 10 := by omega
        rw [hm] at hx
        have HX := hide hx
        clear hc HN hx hm e0 e1 e2 e3 e4 e22 e23 e24 e39 e49 e38 e48
        go_wp2_with fail
        refine (inBand_yes c 30 _ (by omega) (by omega) (by omega)).mono ?_
        rintro e w2 ⟨rfl, rfl⟩
        go_wp2_with fail
        refine (palette_low c _ (by omega)).mono ?_
        rintro e w1 ⟨rfl, hb⟩
        simp only [colV]
        have HS1 := hide (HS.out.below hb)
        have hs1 := hb.size
        have hXl1 : w.heap.size < w1.heap.size := Nat.lt_of_succ_lt HS1.out.lt
        have hat1 := HS1.out.sg.st.at
        have y0 := hat1.c0
        have y1 := hat1.c1
        have y2 := hat1.c2
        have y3 := hat1.c3
        have y4 := hat1.c4
        have y5 := hat1.c5
        have y6 := hat1.c6
        have y7 := hat1.c7
        have y8 := hat1.c8
        have y9 := hat1.c9
        have y10 := hat1.c10
        have y11 := hat1.c11
        have y12 := hat1.c12
        have y13 := hat1.c13
        have yf := hat1.fr
        clear hb hat1
        go_wp2_with fail
        go_roundw
        case rel => exact ⟨j + 1 + 0, _, HX.out.1, by go_num, HX.out.2, (HS1.out.fg 1 (c % 10) 0 0 0)⟩
        case measure => simp [intOf] <;> omega
      by_cases b90 : 90 ≤ c ∧ c ≤ 97
      · as_aux_lemma =>
        obtain ⟨b1, b2⟩ := b90
        have hx := HN.out.2.2.2.2.2.2.2.2.2.2.2.2.2.1 b1 b2
        have hm : c - 90 = c % 10 := by omega
        rw [hm] at hx
        have HX := hide hx
        clear hc HN hx hm e0 e1 e2 e3 e4 e22 e23 e24 e39 e49 e38 e48
        go_wp2_with fail
        refine (inBand_no c 30 _ (by omega) (by omega)).mono ?_
        rintro e w30 ⟨rfl, rfl⟩
        go_wp2_with fail
        refine (inBand_yes c 90 _ (by omega) (by omega) (by omega)).mono ?_
        rintro e w2 ⟨rfl, rfl⟩
        go_wp2_with fail
        refine (palette_high c _ (by omega)).mono ?_
        rintro e w1 ⟨rfl, hb⟩
        simp only [colV]
        have HS1 := hide (HS.out.below hb)
        have hs1 := hb.size
        have hXl1 : w.heap.size < w1.heap.size := Nat.lt_of_succ_lt HS1.out.lt
        have hat1 := HS1.out.sg.st.at
        have y0 := hat1.c0
        have y1 := hat1.c1
        have y2 := hat1.c2
        have y3 := hat1.c3
        have y4 := hat1.c4
        have y5 := hat1.c5
        have y6 := hat1.c6
        have y7 := hat1.c7
        have y8 := hat1.c8
        have y9 := hat1.c9
        have y10 := hat1.c10
        have y11 := hat1.c11
        have y12 := hat1.c12
        have y13 := hat1.c13
        have yf := hat1.fr
        clear hb hat1
        go_wp2_with fail
        go_roundw
        case rel => exact ⟨j + 1 + 0, _, HX.out.1, by go_num, HX.out.2, (HS1.out.fg 1 (c % 10 + 8) 0 0 0)⟩
        case measure => simp [intOf] <;> omega
      by_cases b40 : 40 ≤ c ∧ c ≤ 47
      · as_aux_lemma =>
        obtain ⟨b1, b2⟩ := b40
        have hx := HN.out.2.2.2.2.2.2.2.2.2.2.2.2.2.2.1 b1 b2
        have hm : c - 40 = c % 10 := by omega
        rw [hm] at hx
        have HX := hide hx
        clear hc HN hx hm e0 e1 e2 e3 e4 e22 e23 e24 e39 e49 e38 e48
        go_wp2_with fail
        refine (inBand_no c 30 _ (by omega) (by omega)).mono ?_
        rintro e w30 ⟨rfl, rfl⟩
        go_wp2_with fail
        refine (inBand_no c 90 _ (by omega) (by omega)).mono ?_
        rintro e w90 ⟨rfl, rfl⟩
        go_wp2_with fail
        refine (inBand_yes c 40 _ (by omega) (by omega) (by omega)).mono ?_
        rintro e w2 ⟨rfl, rfl⟩
        go_wp2_with fail
        refine (palette_low c _ (by omega)).mono ?_
        rintro e w1 ⟨rfl, hb⟩
        simp only [colV]
        have HS1 := hide (HS.out.below hb)
        have hs1 := hb.size
        have hXl1 : w.heap.size < w1.heap.size := Nat.lt_of_succ_lt HS1.out.lt
        have hat1 := HS1.out.sg.st.at
        have y0 := hat1.c0
        have y1 := hat1.c1
        have y2 := hat1.c2
        have y3 := hat1.c3
        have y4 := hat1.c4
        have y5 := hat1.c5
        have y6 := hat1.c6
        have y7 := hat1.c7
        have y8 := hat1.c8
        have y9 := hat1.c9
        have y10 := hat1.c10
        have y11 := hat1.c11
        have y12 := hat1.c12
        have y13 := hat1.c13
        have yf := hat1.fr
        clear hb hat1
        go_wp2_with fail
        go_roundw
        case rel => exact ⟨j + 1 + 0, _, HX.out.1, by go_num, HX.out.2, (HS1.out.bg 1 (c % 10) 0 0 0)⟩
        case measure => simp [intOf] <;> omega
      by_cases b100 : 100 ≤ c ∧ c ≤ 107
      · as_aux_lemma =>
        obtain ⟨b1, b2⟩ := b100
        have hx := HN.out.2.2.2.2.2.2.2.2.2.2.2.2.2.2.2.1 b1 b2
        have hm : c - 100 = c % 10 := by omega
        rw [hm] at hx
        have HX := hide hx
        clear hc HN hx hm e0 e1 e2 e3 e4 e22 e23 e24 e39 e49 e38 e48
        go_wp2_with fail
        refine (inBand_no c 30 _ (by omega) (by omega)).mono ?_
        rintro e w30 ⟨rfl, rfl⟩
        go_wp2_with fail
        refine (inBand_no c 90 _ (by omega) (by omega)).mono ?_
        rintro e w90 ⟨rfl, rfl⟩
        go_wp2_with fail
        refine (inBand_no c 40 _ (by omega) (by omega)).mono ?_
        rintro e w40 ⟨rfl, rfl⟩
        go_wp2_with fail
        refine (inBand_yes c 100 _ (by omega) (by omega) (by omega)).mono ?_
        rintro e w2 ⟨rfl, rfl⟩
        go_wp2_with fail
        refine (palette_high c _ (by omega)).mono ?_
        rintro e w1 ⟨rfl, hb⟩
        simp only [colV]
        have HS1 := hide (HS.out.below hb)
        have hs1 := hb.size
        have hXl1 : w.heap.size < w1.heap.size := Nat.lt_of_succ_lt HS1.out.lt
        have hat1 := HS1.out.sg.st.at
        have y0 := hat1.c0
        have y1 := hat1.c1
        have y2 := hat1.c2
        have y3 := hat1.c3
        have y4 := hat1.c4
        have y5 := hat1.c5
        have y6 := hat1.c6
        have y7 := hat1.c7
        have y8 := hat1.c8
        have y9 := hat1.c9
        have y10 := hat1.c10
        have y11 := hat1.c11
        have y12 := hat1.c12
        have y13 := hat1.c13
        have yf := hat1.fr
        clear hb hat1
        go_wp2_with fail
        go_roundw
        case rel => exact ⟨j + 1 + 0, _, HX.out.1, by go_num, HX.out.2, (HS1.out.bg 1 (c % 10 + 8) 0 0 0)⟩
        case measure => simp [intOf] <;> omega
      have hx := HN.out.2.2.2.2.2.2.2.2.2.2.2.2.2.2.2.2 e0 e1 e2 e3 e4 e22 e23 e24 e39 e49 e38 e48 b30 b90 b40 b100
      have HX := hide hx
      clear hc HN hx e0 e1 e2 e3 e4 e22 e23 e24 e39 e49 e38 e48
      go_wp2_with fail
      refine (inBand_no c 30 _ (by omega) (by omega)).mono ?_
      rintro e w30 ⟨rfl, rfl⟩
      go_wp2_with fail
      refine (inBand_no c 90 _ (by omega) (by omega)).mono ?_
      rintro e w90 ⟨rfl, rfl⟩
      go_wp2_with fail
      refine (inBand_no c 40 _ (by omega) (by omega)).mono ?_
      rintro e w40 ⟨rfl, rfl⟩
      go_wp2_with fail
      refine (inBand_no c 100 _ (by omega) (by omega)).mono ?_
      rintro e w100 ⟨rfl, rfl⟩
      go_wp2_with fail
      go_roundw
      case rel => exact ⟨j + 1 + 0, _, HX.out.1, by go_num, HX.out.2, HS.out⟩
      case measure => simp [intOf] <;> omega
    · have hs1 : s = runS f n 0 s0 := by rw [← hrun, runS_end f n j s (by omega)]
      have hat := hsg.sg.st.at
      have hbt := hsg.rs.at
      have HB := hide hsg.sg.bel
      have hXl := hsg.lt
      have HS1 := hide hs1
      have HRS := hide hsg.rs
      have y0 := hat.c0
      have y1 := hat.c1
      have y2 := hat.c2
      have y3 := hat.c3
      have y4 := hat.c4
      have y5 := hat.c5
      have y6 := hat.c6
      have y7 := hat.c7
      have y8 := hat.c8
      have y9 := hat.c9
      have y10 := hat.c10
      have y11 := hat.c11
      have y12 := hat.c12
      have y13 := hat.c13
      have t0 := hbt.c0
      have t1 := hbt.c1
      have t2 := hbt.c2
      have t3 := hbt.c3
      have t4 := hbt.c4
      have t5 := hbt.c5
      have t6 := hbt.c6
      have t7 := hbt.c7
      have t8 := hbt.c8
      have t9 := hbt.c9
      have t10 := hbt.c10
      have t11 := hbt.c11
      have t12 := hbt.c12
      have t13 := hbt.c13
      have yf := hbt.fr
      clear hat hbt hs1 hsg hrun
      go_wp2_with fail
      refine bodyPost_ret (v := styV s) (res22 _ (w.heap.size + 1) s (HRS.out.whole s) _ rfl) rfl ?_
      rw [← HS1.out]
      refine ⟨rfl, ?_⟩
      repeat refine Below.setCell ?_ (by simp) _
      exact HB.out
end Go.Proofs.Qxb6601196a
