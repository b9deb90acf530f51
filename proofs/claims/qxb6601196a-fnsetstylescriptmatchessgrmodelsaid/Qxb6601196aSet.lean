import Derived.Test.Qxb6601196aRun
namespace Go.Proofs.Qxb6601196a
open Go.ChangeShapes Go.WideShapes Go.ChangeAt Go.RowKit Go.Deep
set_option linter.unusedVariables false

set_option maxRecDepth 100000 in
set_option maxHeartbeats 40000000 in
/-- setStyle -/
theorem setStyle_any (S B : Nat) (a : Option Addr) (n cb : Nat) (f : Nat → Int) (s0 : Sty) (n0 : Int) (sv mv : Value) (L : List Sty) (w : World) (hc : Codes w a n cb f) (hn : n ≤ 1048576) (hsc : Scr w S B s0 n0 sv mv L L)
    (hw0 : Wf s0) (hL : ∀ x, x ∈ L → Wf x) (hl : L.length ≤ 4096) (hB : B ≤ w.heap.size) :
    Calls Try.prog 38 #[.pointer (some ⟨S, 0, none⟩), .slice a n n] w fun e w' => e = .returned (.tuple #[]) ∧ ∃ sv' mv', Scr w' S B (runS f n 0 s0) (numOf L (runS f n 0 s0)) sv' mv' (addS L (runS f n 0 s0)) (addS L (runS f n 0 s0)) ∧
      Turn w w' S sv mv ∧ (sv'.ownBlock = sv.ownBlock ∨ ∃ g, sv'.ownBlock = some g ∧ w.heap.size ≤ g) ∧ (∀ m, mv' = .map (some m) → mv = .map (some m) ∨ w.heap.size ≤ m) := by
  have hs := hsc.st
  have hS := hsc.lt
  have HSC := hide hsc
  have HLW := hide hL
  have HW0 := hide hw0
  clear hsc hL hw0
  have t0 := hs.c0
  have t1 := hs.c1
  have t2 := hs.c2
  have t3 := hs.c3
  have t4 := hs.c4
  have t5 := hs.c5
  have t6 := hs.c6
  have t7 := hs.c7
  have t8 := hs.c8
  have t9 := hs.c9
  have t10 := hs.c10
  have t11 := hs.c11
  have t12 := hs.c12
  have t13 := hs.c13
  have HC := hide hc
  clear hs hc
  go_enter Try.func38, Try.ntmps38
  go_wp2_with fail
  clear t0 t1 t2 t3 t4 t5 t6 t7 t8 t9 t10 t11 t12 t13
  go_loopw [5] (fun i wr => ∃ (j : Nat) (s : Sty), j ≤ n ∧ i = .int .i64 j ∧ runS f n j s = runS f n 0 s0 ∧ Sgr w wr w.heap.size s) (fun i _ => n - (intOf i).toNat)
  case atStart =>
    exact ⟨0, s0, Nat.zero_le _, rfl, rfl, by show (w.heap.push _)[w.heap.size]? = _; simp [styC], (Below.refl _ _).alloc (Nat.le_refl _) _⟩
  case round =>
    obtain ⟨j, s, hj, rfl, hrun, hsg⟩ := hrel
    by_cases hlt : j < n
    · obtain rfl := HC.out.adr (by omega)
      have hcb := HC.out.lt (by omega)
      have d1 : wr.cell? ⟨cb, j, none⟩ = some (.int .i64 (f j)) := by rw [hsg.bel.cell hcb]; exact HC.out.cel j hlt
      have hcX : cb ≠ w.heap.size := by omega
      have hXl := hsg.lt
      have hcl : cb < wr.heap.size := by omega
      have hat := hsg.st.at
      have y0 := hat.c0
      have y1 := hat.c1
      have y2 := hat.c2
      have y3 := hat.c3
      have y4 := hat.c4
      have y5 := hat.c5
      have y6 := hat.c6
      have y7 := hat.c7
      have y8 := hat.c8
      have y9 := hat.c9
      have y10 := hat.c10
      have y11 := hat.c11
      have y12 := hat.c12
      have y13 := hat.c13
      have yf := hat.fr
      have hnx := next_code f n j s (fun s' m => j + 1 + m ≤ n ∧ runS f n (j + 1 + m) s' = runS f n 0 s0) ⟨codeN_le f n j hlt, by rw [← runS_step f n j s hlt]; exact hrun⟩
      have HS := hide hsg
      have HN := hide hnx
      clear hat hsg hrun hnx
      obtain ⟨c, hc⟩ : ∃ c, c = f j := ⟨_, rfl⟩
      rw [← hc] at d1 HN
      have hlt' : (j : Int) < (n : Int) := by omega
      have hj0 : (0 : Int) ≤ (j : Int) := by omega
      by_cases e0 : c = 0
      · have hx := HN.out.1 e0
        rw [e0] at d1
        have HX := hide hx
        clear hc HN hx
        go_wp2_with fail
        go_roundw
        case rel => exact ⟨j + 1, _, HX.out.1, by go_num, HX.out.2, HS.out.clear⟩
        case measure => simp [intOf]; omega
      by_cases e1 : c = 1
      · as_aux_lemma =>
        have hx := HN.out.2.1 e1
        rw [e1] at d1
        have HX := hide hx
        clear hc HN hx
        go_wp2_with fail
        go_roundw
        case rel => exact ⟨j + 1, _, HX.out.1, by go_num, HX.out.2, HS.out.set 10 _ rfl⟩
        case measure => simp [intOf]; omega
      by_cases e2 : c = 2
      · as_aux_lemma =>
        have hx := HN.out.2.2.1 e2
        rw [e2] at d1
        have HX := hide hx
        clear hc HN hx
        go_wp2_with fail
        go_roundw
        case rel => exact ⟨j + 1, _, HX.out.1, by go_num, HX.out.2, HS.out.set 11 _ rfl⟩
        case measure => simp [intOf]; omega
      by_cases e3 : c = 3
      · as_aux_lemma =>
        have hx := HN.out.2.2.2.1 e3
        rw [e3] at d1
        have HX := hide hx
        clear hc HN hx
        go_wp2_with fail
        go_roundw
        case rel => exact ⟨j + 1, _, HX.out.1, by go_num, HX.out.2, HS.out.set 12 _ rfl⟩
        case measure => simp [intOf]; omega
      by_cases e4 : c = 4
      · as_aux_lemma =>
        have hx := HN.out.2.2.2.2.1 e4
        rw [e4] at d1
        have HX := hide hx
        clear hc HN hx
        go_wp2_with fail
        go_roundw
        case rel => exact ⟨j + 1, _, HX.out.1, by go_num, HX.out.2, HS.out.set 13 _ rfl⟩
        case measure => simp [intOf]; omega
      by_cases e22 : c = 22
      · as_aux_lemma =>
        have hx := HN.out.2.2.2.2.2.1 e22
        rw [e22] at d1
        have HX := hide hx
        clear hc HN hx
        go_wp2_with fail
        go_roundw
        case rel => exact ⟨j + 1, _, HX.out.1, by go_num, HX.out.2, (HS.out.set 10 _ (t := { s with bo := false }) rfl).set 11 _ rfl⟩
        case measure => simp [intOf]; omega
      by_cases e23 : c = 23
      · as_aux_lemma =>
        have hx := HN.out.2.2.2.2.2.2.1 e23
        rw [e23] at d1
        have HX := hide hx
        clear hc HN hx
        go_wp2_with fail
        go_roundw
        case rel => exact ⟨j + 1, _, HX.out.1, by go_num, HX.out.2, HS.out.set 12 _ rfl⟩
        case measure => simp [intOf]; omega
      by_cases e24 : c = 24
      · as_aux_lemma =>
        have hx := HN.out.2.2.2.2.2.2.2.1 e24
        rw [e24] at d1
        have HX := hide hx
        clear hc HN hx
        go_wp2_with fail
        go_roundw
        case rel => exact ⟨j + 1, _, HX.out.1, by go_num, HX.out.2, HS.out.set 13 _ rfl⟩
        case measure => simp [intOf]; omega
      by_cases e39 : c = 39
      · as_aux_lemma =>
        have hx := HN.out.2.2.2.2.2.2.2.2.1 e39
        rw [e39] at d1
        have HX := hide hx
        clear hc HN hx
        go_wp2_with fail
        go_roundw
        case rel => exact ⟨j + 1, _, HX.out.1, by go_num, HX.out.2, HS.out.fg 0 0 0 0 0⟩
        case measure => simp [intOf]; omega
      by_cases e49 : c = 49
      · as_aux_lemma =>
        have hx := HN.out.2.2.2.2.2.2.2.2.2.1 e49
        rw [e49] at d1
        have HX := hide hx
        clear hc HN hx
        go_wp2_with fail
        go_roundw
        case rel => exact ⟨j + 1, _, HX.out.1, by go_num, HX.out.2, HS.out.bg 0 0 0 0 0⟩
        case measure => simp [intOf]; omega
      by_cases e38 : c = 38
      · as_aux_lemma =>
        have hx := HN.out.2.2.2.2.2.2.2.2.2.2.1 e38
        rw [e38] at d1
        clear hc HN e0
        by_cases hjn : n = j + 1
        · subst hjn
          have hE0 : extAt f (j + 1) j = (Col.zero, 0) := by unfold extAt ext; rw [if_pos (by omega)]
          rw [hE0] at hx
          have hext := ext_any (some ⟨cb, 0, none⟩) 0 0 f wr (by omega) (fun h => absurd h (by omega))
          have hE1 : ext f 0 = (Col.zero, 0) := rfl
          rw [hE1] at hext
          simp only [colV, Col.zero, if_true] at hext hx
          have HX := hide hx
          have HE := hide hext
          clear hx hext hE0 hE1
          go_wp2_with fail
          refine HE.out.mono ?_
          rintro e w1 ⟨rfl, hb⟩
          have HS1 := hide ((HS.out.below hb))
          have hs1 := hb.size
          have hXl1 := HS1.out.lt
          have hat1 := HS1.out.st.at
          have y0 := hat1.c0
          have y1 := hat1.c1
          have y2 := hat1.c2
          have y3 := hat1.c3
          have y4 := hat1.c4
          have y5 := hat1.c5
          have y6 := hat1.c6
          have y7 := hat1.c7
          have y8 := hat1.c8
          have y9 := hat1.c9
          have y10 := hat1.c10
          have y11 := hat1.c11
          have y12 := hat1.c12
          have y13 := hat1.c13
          have yf := hat1.fr
          clear hb hat1 HE
          go_wp2_with fail
          go_roundw
          case rel => exact ⟨j + 1 + 0, _, HX.out.1, by go_num, HX.out.2, HS1.out.alloc _⟩
          case measure => simp [intOf] <;> omega
        · have hext := ext_any (some ⟨cb, j + 1, none⟩) (n - (j + 1)) (n - (j + 1)) (fun k => f (j + 1 + k)) wr (by omega) (fun _ => ⟨cb, j + 1, rfl, fun k hk => by rw [HS.out.bel.cell hcb]; exact HC.out.cel _ (by omega)⟩)
          have hle := ext_le (fun k => f (j + 1 + k)) (n - (j + 1))
          have hz := ext_none_col (fun k => f (j + 1 + k)) (n - (j + 1))
          unfold extAt at hx
          generalize ext (fun k => f (j + 1 + k)) (n - (j + 1)) = E at hext hx hle hz
          obtain ⟨⟨k, i, r, g, b⟩, u⟩ := E
          simp only [colV] at hext hx hle hz
          by_cases hu : u = 0
          · subst hu
            have hk := hz rfl
            simp only [Col.zero, Prod.mk.injEq] at hk
            obtain ⟨rfl, rfl, rfl, rfl, rfl⟩ := hk
            rw [if_pos rfl] at hx
            have HX := hide hx
            have HE := hide hext
            clear hx hz hle hext
            go_wp2_with fail
            refine HE.out.mono ?_
            rintro e w1 ⟨rfl, hb⟩
            have HS1 := hide ((HS.out.below hb))
            have hs1 := hb.size
            have hXl1 := HS1.out.lt
            have hat1 := HS1.out.st.at
            have y0 := hat1.c0
            have y1 := hat1.c1
            have y2 := hat1.c2
            have y3 := hat1.c3
            have y4 := hat1.c4
            have y5 := hat1.c5
            have y6 := hat1.c6
            have y7 := hat1.c7
            have y8 := hat1.c8
            have y9 := hat1.c9
            have y10 := hat1.c10
            have y11 := hat1.c11
            have y12 := hat1.c12
            have y13 := hat1.c13
            have yf := hat1.fr
            clear hb hat1 HE
            go_wp2_with fail
            go_roundw
            case rel => exact ⟨j + 1 + 0, _, HX.out.1, by go_num, HX.out.2, HS1.out.alloc _⟩
            case measure => simp [intOf] <;> omega
          · have hu1 : (0 : Int) < (u : Int) := by omega
            by_cases hk : k = 0
            · subst hk
              rw [if_pos rfl] at hx
              have HX := hide hx
              have HE := hide hext
              clear hx hz hext
              go_wp2_with fail
              refine HE.out.mono ?_
              rintro e w1 ⟨rfl, hb⟩
              have HS1 := hide ((HS.out.below hb))
              have hs1 := hb.size
              have hXl1 := HS1.out.lt
              have hat1 := HS1.out.st.at
              have y0 := hat1.c0
              have y1 := hat1.c1
              have y2 := hat1.c2
              have y3 := hat1.c3
              have y4 := hat1.c4
              have y5 := hat1.c5
              have y6 := hat1.c6
              have y7 := hat1.c7
              have y8 := hat1.c8
              have y9 := hat1.c9
              have y10 := hat1.c10
              have y11 := hat1.c11
              have y12 := hat1.c12
              have y13 := hat1.c13
              have yf := hat1.fr
              clear hb hat1 HE
              go_wp2_with fail
              go_roundw
              case rel => exact ⟨j + 1 + u, _, HX.out.1, by go_num, HX.out.2, HS1.out.alloc _⟩
              case measure => simp [intOf] <;> omega
            · rw [if_neg hk] at hx
              have hk0 : (k == 0) = false := by rw [beq_eq_false_iff_ne]; exact hk
              have HX := hide hx
              have HE := hide hext
              clear hx hz hext
              go_wp2_with fail
              refine HE.out.mono ?_
              rintro e w1 ⟨rfl, hb⟩
              have HS1 := hide ((HS.out.below hb))
              have hs1 := hb.size
              have hXl1 := HS1.out.lt
              have hat1 := HS1.out.st.at
              have y0 := hat1.c0
              have y1 := hat1.c1
              have y2 := hat1.c2
              have y3 := hat1.c3
              have y4 := hat1.c4
              have y5 := hat1.c5
              have y6 := hat1.c6
              have y7 := hat1.c7
              have y8 := hat1.c8
              have y9 := hat1.c9
              have y10 := hat1.c10
              have y11 := hat1.c11
              have y12 := hat1.c12
              have y13 := hat1.c13
              have yf := hat1.fr
              clear hb hat1 HE
              go_wp2_with fail
              go_roundw
              case rel => exact ⟨j + 1 + u, _, HX.out.1, by go_num, HX.out.2, (HS1.out.fg k i r g b).alloc _⟩
              case measure => simp [intOf] <;> omega
      by_cases e48 : c = 48
      · as_aux_lemma =>
        have hx := HN.out.2.2.2.2.2.2.2.2.2.2.2.1 e48
        rw [e48] at d1
        clear hc HN e0
        by_cases hjn : n = j + 1
        · subst hjn
          have hE0 : extAt f (j + 1) j = (Col.zero, 0) := by unfold extAt ext; rw [if_pos (by omega)]
          rw [hE0] at hx
          have hext := ext_any (some ⟨cb, 0, none⟩) 0 0 f wr (by omega) (fun h => absurd h (by omega))
          have hE1 : ext f 0 = (Col.zero, 0) := rfl
          rw [hE1] at hext
          simp only [colV, Col.zero, if_true] at hext hx
          have HX := hide hx
          have HE := hide hext
          clear hx hext hE0 hE1
          go_wp2_with fail
          refine HE.out.mono ?_
          rintro e w1 ⟨rfl, hb⟩
          have HS1 := hide ((HS.out.below hb))
          have hs1 := hb.size
          have hXl1 := HS1.out.lt
          have hat1 := HS1.out.st.at
          have y0 := hat1.c0
          have y1 := hat1.c1
          have y2 := hat1.c2
          have y3 := hat1.c3
          have y4 := hat1.c4
          have y5 := hat1.c5
          have y6 := hat1.c6
          have y7 := hat1.c7
          have y8 := hat1.c8
          have y9 := hat1.c9
          have y10 := hat1.c10
          have y11 := hat1.c11
          have y12 := hat1.c12
          have y13 := hat1.c13
          have yf := hat1.fr
          clear hb hat1 HE
          go_wp2_with fail
          go_roundw
          case rel => exact ⟨j + 1 + 0, _, HX.out.1, by go_num, HX.out.2, HS1.out.alloc _⟩
          case measure => simp [intOf] <;> omega
        · have hext := ext_any (some ⟨cb, j + 1, none⟩) (n - (j + 1)) (n - (j + 1)) (fun k => f (j + 1 + k)) wr (by omega) (fun _ => ⟨cb, j + 1, rfl, fun k hk => by rw [HS.out.bel.cell hcb]; exact HC.out.cel _ (by omega)⟩)
          have hle := ext_le (fun k => f (j + 1 + k)) (n - (j + 1))
          have hz := ext_none_col (fun k => f (j + 1 + k)) (n - (j + 1))
          unfold extAt at hx
          generalize ext (fun k => f (j + 1 + k)) (n - (j + 1)) = E at hext hx hle hz
          obtain ⟨⟨k, i, r, g, b⟩, u⟩ := E
          simp only [colV] at hext hx hle hz
          by_cases hu : u = 0
          · subst hu
            have hk := hz rfl
            simp only [Col.zero, Prod.mk.injEq] at hk
            obtain ⟨rfl, rfl, rfl, rfl, rfl⟩ := hk
            rw [if_pos rfl] at hx
            have HX := hide hx
            have HE := hide hext
            clear hx hz hle hext
            go_wp2_with fail
            refine HE.out.mono ?_
            rintro e w1 ⟨rfl, hb⟩
            have HS1 := hide ((HS.out.below hb))
            have hs1 := hb.size
            have hXl1 := HS1.out.lt
            have hat1 := HS1.out.st.at
            have y0 := hat1.c0
            have y1 := hat1.c1
            have y2 := hat1.c2
            have y3 := hat1.c3
            have y4 := hat1.c4
            have y5 := hat1.c5
            have y6 := hat1.c6
            have y7 := hat1.c7
            have y8 := hat1.c8
            have y9 := hat1.c9
            have y10 := hat1.c10
            have y11 := hat1.c11
            have y12 := hat1.c12
            have y13 := hat1.c13
            have yf := hat1.fr
            clear hb hat1 HE
            go_wp2_with fail
            go_roundw
            case rel => exact ⟨j + 1 + 0, _, HX.out.1, by go_num, HX.out.2, HS1.out.alloc _⟩
            case measure => simp [intOf] <;> omega
          · have hu1 : (0 : Int) < (u : Int) := by omega
            by_cases hk : k = 0
            · subst hk
              rw [if_pos rfl] at hx
              have HX := hide hx
              have HE := hide hext
              clear hx hz hext
              go_wp2_with fail
              refine HE.out.mono ?_
              rintro e w1 ⟨rfl, hb⟩
              have HS1 := hide ((HS.out.below hb))
              have hs1 := hb.size
              have hXl1 := HS1.out.lt
              have hat1 := HS1.out.st.at
              have y0 := hat1.c0
              have y1 := hat1.c1
              have y2 := hat1.c2
              have y3 := hat1.c3
              have y4 := hat1.c4
              have y5 := hat1.c5
              have y6 := hat1.c6
              have y7 := hat1.c7
              have y8 := hat1.c8
              have y9 := hat1.c9
              have y10 := hat1.c10
              have y11 := hat1.c11
              have y12 := hat1.c12
              have y13 := hat1.c13
              have yf := hat1.fr
              clear hb hat1 HE
              go_wp2_with fail
              go_roundw
              case rel => exact ⟨j + 1 + u, _, HX.out.1, by go_num, HX.out.2, HS1.out.alloc _⟩
              case measure => simp [intOf] <;> omega
            · rw [if_neg hk] at hx
              have hk0 : (k == 0) = false := by rw [beq_eq_false_iff_ne]; exact hk
              have HX := hide hx
              have HE := hide hext
              clear hx hz hext
              go_wp2_with fail
              refine HE.out.mono ?_
              rintro e w1 ⟨rfl, hb⟩
              have HS1 := hide ((HS.out.below hb))
              have hs1 := hb.size
              have hXl1 := HS1.out.lt
              have hat1 := HS1.out.st.at
              have y0 := hat1.c0
              have y1 := hat1.c1
              have y2 := hat1.c2
              have y3 := hat1.c3
              have y4 := hat1.c4
              have y5 := hat1.c5
              have y6 := hat1.c6
              have y7 := hat1.c7
              have y8 := hat1.c8
              have y9 := hat1.c9
              have y10 := hat1.c10
              have y11 := hat1.c11
              have y12 := hat1.c12
              have y13 := hat1.c13
              have yf := hat1.fr
              clear hb hat1 HE
              go_wp2_with fail
              go_roundw
              case rel => exact ⟨j + 1 + u, _, HX.out.1, by go_num, HX.out.2, (HS1.out.bg k i r g b).alloc _⟩
              case measure => simp [intOf] <;> omega
      have q0 : (c == 0) = false := by rw [beq_eq_false_iff_ne]; exact e0
      have q1 : (c == 1) = false := by rw [beq_eq_false_iff_ne]; exact e1
      have q2 : (c == 2) = false := by rw [beq_eq_false_iff_ne]; exact e2
      have q3 : (c == 3) = false := by rw [beq_eq_false_iff_ne]; exact e3
      have q4 : (c == 4) = false := by rw [beq_eq_false_iff_ne]; exact e4
      have q22 : (c == 22) = false := by rw [beq_eq_false_iff_ne]; exact e22
      have q23 : (c == 23) = false := by rw [beq_eq_false_iff_ne]; exact e23
      have q24 : (c == 24) = false := by rw [beq_eq_false_iff_ne]; exact e24
      have q39 : (c == 39) = false := by rw [beq_eq_false_iff_ne]; exact e39
      have q49 : (c == 49) = false := by rw [beq_eq_false_iff_ne]; exact e49
      have q38 : (c == 38) = false := by rw [beq_eq_false_iff_ne]; exact e38
      have q48 : (c == 48) = false := by rw [beq_eq_false_iff_ne]; exact e48
      by_cases b30 : 30 ≤ c ∧ c ≤ 37
      · as_aux_lemma =>
        obtain ⟨b1, b2⟩ := b30
        have hx := HN.out.2.2.2.2.2.2.2.2.2.2.2.2.1 b1 b2
        have HX := hide hx
        clear hc HN hx e0 e1 e2 e3 e4 e22 e23 e24 e39 e49 e38 e48
        go_wp2_with fail
        go_roundw
        case rel => exact ⟨j + 1, _, HX.out.1, by go_num, HX.out.2, HS.out.fg 1 (c - 30) 0 0 0⟩
        case measure => simp [intOf]; omega
      by_cases b90 : 90 ≤ c ∧ c ≤ 97
      · as_aux_lemma =>
        obtain ⟨b1, b2⟩ := b90
        have hx := HN.out.2.2.2.2.2.2.2.2.2.2.2.2.2.1 b1 b2
        have HX := hide hx
        clear hc HN hx e0 e1 e2 e3 e4 e22 e23 e24 e39 e49 e38 e48
        go_wp2_with fail
        go_roundw
        case rel => exact ⟨j + 1, _, HX.out.1, by go_num, HX.out.2, HS.out.fg 1 (c - 90 + 8) 0 0 0⟩
        case measure => simp [intOf]; omega
      by_cases b40 : 40 ≤ c ∧ c ≤ 47
      · as_aux_lemma =>
        obtain ⟨b1, b2⟩ := b40
        have hx := HN.out.2.2.2.2.2.2.2.2.2.2.2.2.2.2.1 b1 b2
        have HX := hide hx
        clear hc HN hx e0 e1 e2 e3 e4 e22 e23 e24 e39 e49 e38 e48
        go_wp2_with fail
        go_roundw
        case rel => exact ⟨j + 1, _, HX.out.1, by go_num, HX.out.2, HS.out.bg 1 (c - 40) 0 0 0⟩
        case measure => simp [intOf]; omega
      by_cases b100 : 100 ≤ c ∧ c ≤ 107
      · as_aux_lemma =>
        obtain ⟨b1, b2⟩ := b100
        have hx := HN.out.2.2.2.2.2.2.2.2.2.2.2.2.2.2.2.1 b1 b2
        have HX := hide hx
        clear hc HN hx e0 e1 e2 e3 e4 e22 e23 e24 e39 e49 e38 e48
        go_wp2_with fail
        go_roundw
        case rel => exact ⟨j + 1, _, HX.out.1, by go_num, HX.out.2, HS.out.bg 1 (c - 100 + 8) 0 0 0⟩
        case measure => simp [intOf]; omega
      have hx := HN.out.2.2.2.2.2.2.2.2.2.2.2.2.2.2.2.2 e0 e1 e2 e3 e4 e22 e23 e24 e39 e49 e38 e48 b30 b90 b40 b100
      have HX := hide hx
      have hgap : c < 30 ∨ (37 < c ∧ c < 40) ∨ (47 < c ∧ c < 90) ∨ (97 < c ∧ c < 100) ∨ 107 < c := by omega
      clear hc HN hx e0 e1 e2 e3 e4 e22 e23 e24 e39 e49 e38 e48 b30 b90 b40 b100
      rcases hgap with g1 | ⟨g1, g2⟩ | ⟨g1, g2⟩ | ⟨g1, g2⟩ | g1
      · as_aux_lemma =>
        go_wp2_with fail
        go_roundw
        case rel => exact ⟨j + 1, _, HX.out.1, by go_num, HX.out.2, HS.out⟩
        case measure => simp [intOf]; omega
      · as_aux_lemma =>
        go_wp2_with fail
        go_roundw
        case rel => exact ⟨j + 1, _, HX.out.1, by go_num, HX.out.2, HS.out⟩
        case measure => simp [intOf]; omega
      · as_aux_lemma =>
        go_wp2_with fail
        go_roundw
        case rel => exact ⟨j + 1, _, HX.out.1, by go_num, HX.out.2, HS.out⟩
        case measure => simp [intOf]; omega
      · as_aux_lemma =>
        go_wp2_with fail
        go_roundw
        case rel => exact ⟨j + 1, _, HX.out.1, by go_num, HX.out.2, HS.out⟩
        case measure => simp [intOf]; omega
      · as_aux_lemma =>
        go_wp2_with fail
        go_roundw
        case rel => exact ⟨j + 1, _, HX.out.1, by go_num, HX.out.2, HS.out⟩
        case measure => simp [intOf]; omega
    · have hs1 : s = runS f n 0 s0 := by rw [← hrun, runS_end f n j s (by omega)]
      have hwf : Wf s := by rw [hs1]; exact runS_wf f n n 0 s0 (by omega) HW0.out
      have hsc1 := HSC.out.below hsg.bel
      have hsc2 := hsc1.setSt s
      have hnum := num_any S B s s n0 sv mv L _ hsc2 hwf HLW.out hl (by rw [size_setSt]; have := hsg.bel.size; omega)
      have hat := hsg.st.at
      have HB := hide hsg.bel
      have hXl := hsg.lt
      have hSl : S < wr.heap.size := by omega
      have hsX : S ≠ w.heap.size := by omega
      have y0 := hat.c0
      have y1 := hat.c1
      have y2 := hat.c2
      have y3 := hat.c3
      have y4 := hat.c4
      have y5 := hat.c5
      have y6 := hat.c6
      have y7 := hat.c7
      have y8 := hat.c8
      have y9 := hat.c9
      have y10 := hat.c10
      have y11 := hat.c11
      have y12 := hat.c12
      have y13 := hat.c13
      have t0 := hsc1.st.c0
      have t1 := hsc1.st.c1
      have t2 := hsc1.st.c2
      have t3 := hsc1.st.c3
      have t4 := hsc1.st.c4
      have t5 := hsc1.st.c5
      have t6 := hsc1.st.c6
      have t7 := hsc1.st.c7
      have t8 := hsc1.st.c8
      have t9 := hsc1.st.c9
      have t10 := hsc1.st.c10
      have t11 := hsc1.st.c11
      have t12 := hsc1.st.c12
      have t13 := hsc1.st.c13
      have yf := hsc1.st.fr
      have HS1 := hide hs1
      have HNUM := hide hnum
      simp only [styV, styC, setSt] at HNUM
      clear hat hsc1 hsc2 hnum hs1 hsg hrun hwf HSC
      go_wp2_with fail
      refine HNUM.out.mono ?_
      rintro e w2 ⟨rfl, sv', mv', h1, h2, h3, h4⟩
      have u20 := h1.c20
      have uf := h1.st.fr 20
      have H1 := hide h1
      have H2 := hide h2
      have H3 := hide h3
      have H4 := hide h4
      clear h1 h2 h3 h4 HNUM t0 t1 t2 t3 t4 t5 t6 t7 t8 t9 t10 t11 t12 t13 y0 y1 y2 y3 y4 y5 y6 y7 y8 y9 y10 y11 y12 y13 yf
      go_wp2_with fail
      go_end0
      have hz := size_setSt wr S s
      have hz2 := HB.out.size
      simp only [setSt] at hz
      rw [← HS1.out]
      refine ⟨rfl, sv', mv', H1.out.set20 _, Turn.whole (t := s) HB.out H2.out, ?_, fun m e => ?_⟩
      · rcases H3.out with e | ⟨g, e1, e2⟩
        · exact .inl e
        · exact .inr ⟨g, e1, by rw [hz] at e2; omega⟩
      · rcases H4.out m e with e | e
        · exact .inl e
        · exact .inr (by rw [hz] at e; omega)
end Go.Proofs.Qxb6601196a
