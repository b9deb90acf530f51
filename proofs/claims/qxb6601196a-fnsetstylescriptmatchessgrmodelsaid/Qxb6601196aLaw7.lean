import Derived.Test.Qxb6601196aSet
import Derived.Test.Qxb6601196aMod
import Derived.Test.Qxb6601196aTop
import Derived.BigRegion
import Derived.Deep.RegionWith
import Derived.BigQuiet
import Derived.Deep.RegionLaw
namespace Go.Proofs.Qxb6601196a
open Go.ChangeShapes Go.WideShapes Go.ChangeAt Go.RowKit Go.Deep
set_option linter.unusedVariables false

set_option maxRecDepth 100000 in
/-- ZZSetStyle -/
theorem zzset_any (S B : Nat) (a : Option Addr) (n cb : Nat) (f : Nat → Int) (s0 : Sty) (n0 : Int) (sv mv : Value) (L : List Sty) (w : World) (hc : Codes w a n cb f) (hn : n ≤ 1048576) (hsc : Scr w S B s0 n0 sv mv L L)
    (hw0 : Wf s0) (hL : ∀ x, x ∈ L → Wf x) (hl : L.length ≤ 4096) (hB : B ≤ w.heap.size) :
    Calls Try.prog 21 #[.pointer (some ⟨S, 0, none⟩), .slice a n n] w fun e w' => e = .returned (.tuple #[]) ∧ ∃ sv' mv', Scr w' S B (runS f n 0 s0) (numOf L (runS f n 0 s0)) sv' mv' (addS L (runS f n 0 s0)) (addS L (runS f n 0 s0)) ∧
      Turn w w' S sv mv ∧ (sv'.ownBlock = sv.ownBlock ∨ ∃ g, sv'.ownBlock = some g ∧ w.heap.size ≤ g) ∧ (∀ m, mv' = .map (some m) → mv = .map (some m) ∨ w.heap.size ≤ m) := by
  have HX := hide (setStyle_any S B a n cb f s0 n0 sv mv L w hc hn hsc hw0 hL hl hB)
  clear hc hsc hw0 hL
  go_enter Try.func21, Try.ntmps21
  go_wp2_with fail
  refine HX.out.mono ?_
  rintro e w1 ⟨rfl, h1⟩
  have H1 := hide h1
  clear h1 HX
  go_wp2_with fail
  go_end0
  exact ⟨rfl, H1.out⟩

theorem wpList_app59 {P : Program} {w : World} {ops : Array Oper} {rest : List Oper} {o : Oper} {a : Act} {Q : Exit → Act → World → Prop} (hgd : o.guard = none) (sl x : Operand) (t u : TypeId)
    (ho : o.op = .call { callee := .builtin .append, args := #[sl, x], argTypes := #[t, u] }) (v y v' : Value) (w' : World) (hs : a.eval sl = v) (hx : a.eval x = y)
    (hr : ∀ ty, (Builtin.append_ #[t, u] ty #[v, y]).run P w = .ok v' w') (h : wpList P ops Q rest (a.put o.dst v') w') : wpList P ops Q (o :: rest) a w := by
  refine wpList_plain hgd fun K hK => ?_
  unfold Oper.wp execOp
  simp only [ho, resolve, invoke, builtin, Sem.run_bind, Sem.run_pure, Result.andThen_ok, List.map_toArray, List.map_cons, List.map_nil, hs, hx, hr]
  exact hK _ _ h

set_option maxRecDepth 100000 in
set_option maxHeartbeats 8000000 in
theorem law7_main (a : Option Addr) (n c : Nat) (A : Nat → Option Addr) (Ln C : Nat → Nat) (Z : Nat → Nat → Int) (W : World) (h : Mat W a n A Ln C Z) (h0 : a = none → n = 0 ∧ c = 0) (hl : ∀ r, r < n → Ln r ≤ maxLen) (hn : n ≤ maxLen) :
    Calls Try.prog 7 #[.slice a n c] W fun e w' => e = .returned (.bool true) ∧ Below W.heap.size W w' := by
  have HB := hide (bytes_any a n c A Ln C Z W h hl hn)
  have HM := hide h
  have HL := hide hl
  have H0 := hide h0
  clear h hl h0
  unfold maxLen at hn
  go_enter Try.func7, Try.ntmps7
  go_wp2_with fail
  refine HB.out.mono ?_
  rintro e w1 ⟨⟨bo, rfl⟩, rfl⟩
  clear HB
  cases bo with
  | false =>
    go_wp2_with fail
    go_ret
    exact ⟨rfl, Below.refl _ _⟩
  | true =>
    by_cases hn1 : n ≤ 4096
    · go_wp2_with fail
      go_loopw [3, 4] (fun z i wr => wr = w1 ∧ ∃ (k : Nat) (m : Int), k ≤ n ∧ i = .int .i64 k ∧ z = .int .i64 m ∧ 0 ≤ m ∧ m ≤ 1048576 ∧ ∀ r, r < k → Ln r ≤ 131072) (fun _ i _ => n - (intOf i).toNat)
      case atStart => exact ⟨rfl, 0, 8 * n, Nat.zero_le _, rfl, rfl, by omega, by omega, fun r hr => absurd hr (by omega)⟩
      case round =>
        obtain ⟨hw, k, m, hk, rfl, rfl, hm0, hm1, hle⟩ := hrel
        have hw' := hw.symm
        clear hw
        subst hw'
        have HLE := hide hle
        clear hle
        by_cases hlt : k < n
        · obtain ⟨b, off, rfl, hb, hc⟩ := HM.out.adr (by omega)
          have hck := hc k hlt
          have hlk := HL.out k hlt
          unfold maxLen at hlk
          have hlt' : (k : Int) < (n : Int) := by omega
          clear hc
          by_cases h2 : Ln k ≤ 131072
          · by_cases h3 : m + 8 * (Ln k : Int) ≤ 1048576
            · go_wp2_with fail
              go_roundw
              case rel => exact ⟨by trivial, k + 1, m + 8 * Ln k, by omega, by go_num, by go_num, by omega, by omega, fun r hr => by
                by_cases e : r = k
                · rw [e]; exact h2
                · exact HLE.out r (by omega)⟩
              case measure => simp [intOf]; omega
            · go_wp2_with fail
              go_ret
              exact ⟨rfl, Below.refl _ _⟩
          · go_wp2_with fail
            go_ret
            exact ⟨rfl, Below.refl _ _⟩
        · have hkn : k = n := by omega
          subst hkn
          have HCP := hide (copy_any a k c A Ln C Z w1 (by omega) HM.out H0.out (fun r hr => by have := HLE.out r hr; omega))
          go_wp2_with fail
          refine HCP.out.mono ?_
          rintro e W1 ⟨a', A', rfl, hcp, hbel1⟩
          have HC := hide hcp
          have HB1 := hide hbel1
          clear hcp hbel1 HCP HM HL H0
          go_wp2_with fail
          go_loopw [7, 8] (fun v7 i wx => ∃ (j : Nat) (s : Sty) (num : Int) (sv mv : Value) (L : List Sty), j ≤ k ∧ i = .int .i64 j ∧ L.length ≤ j ∧ Main W1 wx s s num sv mv v7 L L) (fun _ i _ => k - (intOf i).toNat)
          case atStart => exact ⟨0, Sty.zero, 0, _, _, [], Nat.zero_le _, rfl, Nat.le_refl _, start7 W1⟩
          case round =>
            obtain ⟨j, s, num, sv, mv, L, hj, rfl, hLj, hm⟩ := hrel
            obtain ⟨a7, c7, rfl⟩ := row_shape hm.row
            by_cases hlt2 : j < k
            · obtain ⟨rfl, hcj⟩ := HC.out.top j hlt2
              obtain ⟨cb, hcodes⟩ := codes_of (HC.out.row j hlt2)
              have hB0 := HC.out.lt (by omega)
              have hcx : wr.cell? ⟨w1.heap.size, j, none⟩ = some (.slice (A' j) (Ln j) (Ln j)) := by rw [hm.bel.cell hB0]; exact hcj
              have hLk := HLE.out j hlt2
              have hxl := hm.xlt
              have hset := zzset_any W1.heap.size W1.heap.size (A' j) (Ln j) cb (Z j) s num sv mv L wr (hcodes wr hm.bel) (by omega) hm.scr hm.wf hm.wfL (by omega) (by omega)
              have hwf1 := runS_wf (Z j) (Ln j) (Ln j) 0 s (by omega) hm.wf
              have hmod := fun w2 h => model_any (A' j) (Ln j) cb (Z j) s w2 (hcodes w2 h) (by omega)
              generalize runS (Z j) (Ln j) 0 s = s1 at hset hwf1 hmod
              have HSET := hide hset
              have HMOD := hide hmod
              have HM := hide hm
              have HWF := hide hwf1
              have hlt3 : (j : Int) < (k : Int) := by omega
              have hB0' : w1.heap.size < wr.heap.size := by omega
              clear hset hmod hm hwf1 hcodes hcj
              go_wp2_with fail
              refine HSET.out.mono ?_
              rintro e w2 ⟨rfl, sv', mv', h1, h2, h3, h4⟩
              have hm2 := HM.out.turn h1 h2 h3 h4 HWF.out (addS_wf HM.out.wfL HWF.out)
              have HM2 := hide hm2
              have hmo := HMOD.out w2 hm2.bel
              have hx2 := hm2.xlt
              have hat := hm2.sty.at
              have y0 := hat.c0
              have y1 := hat.c1
              have y2 := hat.c2
              have y3 := hat.c3
              have y4 := hat.c4
              have y5 := hat.c5
              have y6 := hat.c6
              have y7 := hat.c7
              have y8 := hat.c8
              have y9 := hat.c9
              have y10 := hat.c10
              have y11 := hat.c11
              have y12 := hat.c12
              have y13 := hat.c13
              simp only [styV, styC] at hmo
              have HMO := hide hmo
              clear hat hm2 hmo h1 h2 h3 h4 HSET HMOD hcx
              go_wp2_with fail
              refine HMO.out.mono ?_
              rintro e w3 ⟨rfl, hb3⟩
              have hm3 := HM2.out.below hb3
              have hx3 := hm3.xlt
              have hat := hm3.sty.at
              have y0 := hat.c0
              have y1 := hat.c1
              have y2 := hat.c2
              have y3 := hat.c3
              have y4 := hat.c4
              have y5 := hat.c5
              have y6 := hat.c6
              have y7 := hat.c7
              have y8 := hat.c8
              have y9 := hat.c9
              have y10 := hat.c10
              have y11 := hat.c11
              have y12 := hat.c12
              have y13 := hat.c13
              have yf := hat.fr
              have HM4 := hide (hm3.lay s1 HWF.out)
              have h0 := neq59 s1 Sty.zero
              obtain ⟨bz, hbz⟩ : ∃ bz, bz = decide (s1 = Sty.zero) := ⟨_, rfl⟩
              rw [← hbz] at h0
              have HBZ := hide hbz
              simp only [styV, styC, Sty.zero, Col.zero] at h0
              clear hat hm3 hb3 HM2 HMO hbz
              go_upto_if 69 with fail
              go_cut [7, 10] (fun a7 a10 wx => a10 = .int .u32 (numOf L s1) ∧ Main W1 wx s1 s1 (numOf L s1) sv' mv' a7 (addS L s1) (addS L s1))
              case first =>
                clear y0 y1 y2 y3 y4 y5 y6 y7 y8 y9 y10 y11 y12 y13 yf
                cases bz with
                | true =>
                  have hz : s1 = Sty.zero := of_decide_eq_true HBZ.out.symm
                  have HZ := hide hz
                  clear hz
                  go_wp2_with fail
                  go_meet
                  have hadd : addS L s1 = L := by unfold addS; rw [if_pos (.inl HZ.out)]
                  have hnum : numOf L s1 = 0 := by unfold numOf; rw [if_pos HZ.out]
                  refine ⟨by rw [hnum], ?_⟩
                  have h5 := HM4.out
                  rw [hadd] at h5 ⊢
                  exact h5
                | false =>
                  have hz : s1 ≠ Sty.zero := of_decide_eq_false HBZ.out.symm
                  have HZ := hide hz
                  show Code.wp Try.prog _ _ _ (layS w3 (W1.heap.size + 1) s1)
                  generalize layS w3 (W1.heap.size + 1) s1 = w4 at *
                  have hx4 := HM4.out.xlt
                  have hat := HM4.out.sty.at
                  have x0 := hat.c0
                  have x1 := hat.c1
                  have x2 := hat.c2
                  have x3 := hat.c3
                  have x4 := hat.c4
                  have x5 := hat.c5
                  have x6 := hat.c6
                  have x7 := hat.c7
                  have x8 := hat.c8
                  have x9 := hat.c9
                  have x10 := hat.c10
                  have x11 := hat.c11
                  have x12 := hat.c12
                  have x13 := hat.c13
                  obtain ⟨N, hN⟩ : ∃ N, N = L.length := ⟨_, rfl⟩
                  clear hat hz h0
                  rw [← hN] at HM4 hLj ⊢
                  have HN := hide hN
                  clear hN
                  go_wp2_with fail
                  go_loopw [11, 12] (fun a11 a12 wy => ∃ i : Nat, i ≤ N ∧ a12 = .int .i64 i ∧ a11 = .int .i64 (-1) ∧ (∀ r, r < i → L[r]? ≠ some s1) ∧ ∃ q, wy = w4.drewN q) (fun _ i _ => N - (intOf i).toNat)
                  case atStart => exact ⟨0, Nat.zero_le _, rfl, rfl, fun r hr => absurd hr (by omega), 0, rfl⟩
                  case round =>
                    obtain ⟨i, hi, rfl, rfl, hfi, q, rfl⟩ := hrel
                    have HFI := hide hfi
                    clear hfi
                    by_cases hil : i < N
                    · obtain ⟨x, hx⟩ : ∃ x, L[i]? = some x := ⟨_, List.getElem?_eq_getElem (by rw [← HN.out]; exact hil)⟩
                      have hrow := HM4.out.row
                      obtain ⟨g, cap, e7, hg⟩ := row_addr hrow (by rw [← HN.out]; omega)
                      injection e7 with e7a e7n e7b
                      clear e7n
                      subst e7a e7b
                      rw [← HN.out] at hrow
                      have hat := row_sty hrow hx
                      have z0 := hat.c0
                      have z1 := hat.c1
                      have z2 := hat.c2
                      have z3 := hat.c3
                      have z4 := hat.c4
                      have z5 := hat.c5
                      have z6 := hat.c6
                      have z7 := hat.c7
                      have z8 := hat.c8
                      have z9 := hat.c9
                      have z10 := hat.c10
                      have z11 := hat.c11
                      have z12 := hat.c12
                      have z13 := hat.c13
                      have heq := eql59 x s1
                      obtain ⟨be, hbe⟩ : ∃ be, be = decide (x = s1) := ⟨_, rfl⟩
                      rw [← hbe] at heq
                      have HBE := hide hbe
                      have HX := hide hx
                      simp only [styV, styC] at heq
                      have hil' : (i : Int) < (N : Int) := by omega
                      have hi0 : (0 : Int) ≤ (i : Int) := by omega
                      have hgX : g ≠ W1.heap.size + 1 := fun e => HM4.out.v7X (by rw [← e]; rfl)
                      have hN1 : N ≤ 4096 := by omega
                      clear hrow hat hbe hx
                      cases be with
                      | true =>
                        go_wp2_with fail
                        go_quiet (fail)
                        go_wp2_with fail
                        go_meet
                        have hxs : x = s1 := of_decide_eq_true HBE.out.symm
                        have hxi := HX.out
                        rw [hxs] at hxi
                        have hadd : addS L s1 = L := by unfold addS; rw [if_pos (.inr (List.mem_of_getElem? hxi))]
                        refine ⟨by rw [numOf_first HZ.out hxi HFI.out], ?_⟩
                        have h5 := HM4.out.drewN (q + nq)
                        rw [hadd] at h5 ⊢
                        exact h5
                      | false =>
                        go_wp2_with fail
                        go_quiet (fail)
                        go_wp2_with fail
                        go_roundw
                        case rel =>
                          refine ⟨i + 1, by omega, by go_num, rfl, fun r hr => ?_, _, rfl⟩
                          by_cases e : r = i
                          · subst e
                            rw [HX.out]
                            intro e
                            injection e with e
                            exact of_decide_eq_false HBE.out.symm e
                          · exact HFI.out r (by omega)
                        case measure => simp [intOf]; omega
                    · have hnm : s1 ∉ L := notMem_of (fun r hr => HFI.out r (by rw [← HN.out] at hr; omega))
                      have hm5 := HM4.out.drewN q
                      obtain ⟨a', c', w5, hr5, hown5, hg5, hloc5⟩ := app_sty (w4.drewN q) W1.heap.size (.slice a7 N c7) L hm5.row (by rw [← HN.out]; omega) (by show W1.heap.size ≤ w4.heap.size; omega) s1
                      rw [← HN.out] at hr5 hown5 hloc5
                      have HG5 := hide hg5
                      have HL5 := hide hloc5
                      have HO5 := hide hown5
                      have HM5 := hide hm5
                      have HNM := hide hnm
                      have HR5 := hide hr5
                      simp only [styC] at HR5
                      have hN1 : N ≤ 4096 := by omega
                      have hil' : ¬ (i : Int) < (N : Int) := by omega
                      clear hg5 hloc5 hown5 hm5 hnm hr5
                      go_wp2_with (at_builtin; refine wpList_app59 rfl (.tmp 85) (.tmp 87) 60 60 rfl _ _ _ _ rfl rfl HR5.out ?_)
                      go_meet
                      have hadd : addS L s1 = L ++ [s1] := by unfold addS; rw [if_neg (by simp [HZ.out, HNM.out])]
                      have hnum : numOf L s1 = (N : Int) + 1 := by unfold numOf; rw [if_neg HZ.out, List.idxOf_eq_length HNM.out, ← HN.out]
                      have hl2 : (L ++ [s1]).length = N + 1 := by rw [HN.out]; simp
                      have h6 := HM5.out.push HG5.out (by rw [hl2]; exact HO5.out) HL5.out
                      refine ⟨by rw [hnum], ?_⟩
                      rw [hadd] at h6 ⊢
                      exact h6
              case rest =>
                obtain ⟨rfl, hm5⟩ := hcut
                clear y0 y1 y2 y3 y4 y5 y6 y7 y8 y9 y10 y11 y12 y13 yf h0 HM4 HBZ HM
                obtain ⟨a7', c7', rfl⟩ := row_shape hm5.row
                obtain ⟨a21, c21, rfl⟩ := row_shape hm5.scr.row
                have hcur : ∀ w, w.heap = wc.heap → Calls Try.prog 23 #[.pointer (some ⟨W1.heap.size, 0, none⟩)] w fun e w' => e = .returned (styV s1) ∧ w' = w.alloc (.cells (styC s1) 59) :=
                  fun w hw => cur_any _ s1 w (hm5.scr.st.blk (by rw [hw])) (by rw [hw]; exact hm5.scr.lt)
                have hma := hm5.alloc (.cells (styC s1) 59)
                have hsty : ∀ w, w.heap = (wc.alloc (.cells (styC s1) 59)).heap → Calls Try.prog 24 #[.pointer (some ⟨W1.heap.size, 0, none⟩)] w fun e w' => e = .returned (.int .u32 (numOf L s1)) ∧ w' = w :=
                  fun w hw => styled_any _ _ w (by rw [cell_blk (w := wc.alloc (.cells (styC s1) 59)) (by rw [hw])]; exact hma.scr.c20)
                have hcnt : ∀ w, w.heap = (wc.alloc (.cells (styC s1) 59)).heap → Calls Try.prog 25 #[.pointer (some ⟨W1.heap.size, 0, none⟩)] w fun e w' => e = .returned (.int .i64 ((addS L s1).length : Nat)) ∧ w' = w :=
                  fun w hw => count_any _ _ _ _ w (by rw [cell_blk (w := wc.alloc (.cells (styC s1) 59)) (by rw [hw])]; exact hma.scr.c21)
                have hat := hm5.sty.at
                have y0 := hat.c0
                have y1 := hat.c1
                have y2 := hat.c2
                have y3 := hat.c3
                have y4 := hat.c4
                have y5 := hat.c5
                have y6 := hat.c6
                have y7 := hat.c7
                have y8 := hat.c8
                have y9 := hat.c9
                have y10 := hat.c10
                have y11 := hat.c11
                have y12 := hat.c12
                have y13 := hat.c13
                have hx5 := hm5.xlt
                have hne := neq59 s1 s1
                simp only [decide_true, Bool.not_true] at hne
                have HM5 := hide hm5
                have HCUR := hide hcur
                have HSTY := hide hsty
                have HCNT := hide hcnt
                have hN2 := addS_len L s1
                have HN2 := hide hN2
                simp only [styV, styC] at hne HCUR HSTY HCNT
                generalize hNN : (addS L s1).length = N2 at *
                generalize hnum : numOf L s1 = nn at *
                have hN3 : N2 ≤ 4096 := by omega
                clear hat hm5 hma hcur hsty hcnt hN2
                go_upto_region 36 with fail
                go_cut [111] (fun b wx => b = .bool false ∧ ∃ q, wx = (wc.alloc (.cells (styC s1) 59)).drewN q)
                case first =>
                  go_region_with (first | (go_at_call 23; refine (HCUR.out _ ?hh).mono ?_; (case hh => rfl); rintro e w' ⟨rfl, rfl⟩) | (go_at_call 24; refine (HSTY.out _ ?hh).mono ?_; (case hh => rfl); rintro e w' ⟨rfl, rfl⟩) | (go_at_call 25; refine (HCNT.out _ ?hh).mono ?_; (case hh => rfl); rintro e w' ⟨rfl, rfl⟩))
                  all_goals (go_wp2_with fail; go_meet; exact ⟨rfl, 1, rfl⟩)
                case rest =>
                  obtain ⟨rfl, q, rfl⟩ := hcut
                  clear y0 y1 y2 y3 y4 y5 y6 y7 y8 y9 y10 y11 y12 y13 hne HCUR HSTY HCNT
                  go_wp2_with fail
                  go_roundw
                  case rel => exact ⟨j + 1, s1, nn, _, mv', addS L s1, by omega, by go_num, by rw [hNN]; have := HN2.out; omega, (HM5.out.alloc _).drewN q⟩
                  case measure => simp [intOf]; omega
            · obtain ⟨N, hN⟩ : ∃ N, N = L.length := ⟨_, rfl⟩
              have hcount : Calls Try.prog 26 #[.pointer (some ⟨W1.heap.size, 0, none⟩)] wr fun e w' => e = .returned (.int .i64 (N : Int)) ∧ w' = wr := by
                rw [hN]
                rcases hm.scr.map with ⟨e, e2⟩ | ⟨mb, D, e, h2, h3⟩
                · have c22 := hm.scr.c22
                  rw [e] at c22
                  rw [e2]
                  exact numCount_nil _ wr c22
                · have c22 := hm.scr.c22
                  rw [e] at c22
                  have := numCount_any _ mb L.length D wr c22 h2
                  rw [h3.size] at this
                  exact this
              have HCO := hide hcount
              have hjn : j = k := by omega
              have hlt3 : ¬ (j : Int) < (k : Int) := by omega
              rw [← hN] at hm hLj ⊢
              have HM := hide hm
              have HN := hide hN
              have hN1 : N ≤ 4096 := by omega
              clear hm hcount hN hjn
              go_wp2_with fail
              refine HCO.out.mono ?_
              rintro e w2 ⟨rfl, rfl⟩
              clear HCO
              go_wp2_with fail
              go_loopw [13] (fun i wy => ∃ r : Nat, r ≤ N ∧ i = .int .i64 r ∧ Main W1 wy s s num sv mv (.slice a7 N c7) L L) (fun i _ => N - (intOf i).toNat)
              case atStart => exact ⟨0, Nat.zero_le _, rfl, HM.out⟩
              case round =>
                obtain ⟨r, hr, rfl, hm⟩ := hrel
                by_cases hrn : r < N
                · obtain ⟨x, hx⟩ : ∃ x, L[r]? = some x := ⟨_, List.getElem?_eq_getElem (by rw [← HN.out]; exact hrn)⟩
                  have hrow := hm.row
                  obtain ⟨g, cap, e7, hg⟩ := row_addr hrow (by rw [← HN.out]; omega)
                  injection e7 with e7a e7n e7b
                  clear e7n
                  subst e7a e7b
                  rw [← HN.out] at hrow
                  have hrow2 := hm.scr.row
                  obtain ⟨g2, cap2, e8, hg2⟩ := row_addr hrow2 (by rw [← HN.out]; omega)
                  subst e8
                  rw [← HN.out] at hrow2
                  have hat := row_sty hrow hx
                  have hat2 := row_sty hrow2 hx
                  have z0 := hat.c0
                  have z1 := hat.c1
                  have z2 := hat.c2
                  have z3 := hat.c3
                  have z4 := hat.c4
                  have z5 := hat.c5
                  have z6 := hat.c6
                  have z7 := hat.c7
                  have z8 := hat.c8
                  have z9 := hat.c9
                  have z10 := hat.c10
                  have z11 := hat.c11
                  have z12 := hat.c12
                  have z13 := hat.c13
                  have c21 := hm.scr.c21
                  rw [← HN.out] at c21
                  have hSl := hm.scr.lt
                  have hsat : ∀ w, w.heap = wr.heap → Calls Try.prog 27 #[.pointer (some ⟨W1.heap.size, 0, none⟩), .int .i64 r] w fun e w' => e = .returned (styV x) ∧ w' = w.alloc (.cells (styC x) 59) :=
                    fun w hw => styleAt_any _ g2 r N cap2 x w (by rw [cell_blk (w := wr) (by rw [hw])]; exact c21) hrn (by omega) (hat2.blk (by rw [hw])) (by rw [hw]; exact hg2) (by rw [hw]; exact hSl)
                  have hne := neq59 x x
                  simp only [decide_true, Bool.not_true] at hne
                  have hnof : ∀ q, Calls Try.prog 28 #[.pointer (some ⟨W1.heap.size, 0, none⟩), styV x] ((wr.alloc (.cells (styC x) 59)).drewN q) fun e w' => e = .returned (.tuple #[.int .u32 ((r : Int) + 1), .bool true]) ∧ ∃ q2, w' = (((wr.alloc (.cells (styC x) 59)).drewN q).alloc (.cells (styC x) 59)).drewN q2 :=
                    fun q => numberOf_any _ _ _ x _ _ _ L _ ((hm.alloc (.cells (styC x) 59)).drewN q).scr (hm.wfL x (List.mem_of_getElem? hx)) hx
                  have HSAT := hide hsat
                  have HNOF := hide hnof
                  have HMR := hide hm
                  have HX := hide hx
                  have hrn' : (r : Int) < (N : Int) := by omega
                  have hr0 : (0 : Int) ≤ (r : Int) := by omega
                  simp only [styV, styC] at hne HSAT HNOF
                  clear hrow hrow2 hat hat2 c21 hsat hnof hm hx
                  go_upto_region 43 with fail
                  go_cut [130] (fun b wx => b = .bool false ∧ ∃ q, wx = (wr.alloc (.cells (styC x) 59)).drewN q)
                  case first =>
                    go_region_with (go_at_call 27; refine (HSAT.out _ ?hh).mono ?_; (case hh => rfl); rintro e w' ⟨rfl, rfl⟩)
                    all_goals (go_wp2_with fail; go_meet; exact ⟨rfl, 1, rfl⟩)
                  case rest =>
                    obtain ⟨rfl, q, rfl⟩ := hcut
                    clear hne HSAT
                    go_wp2_with fail
                    refine (HNOF.out q).mono ?_
                    rintro e w3 ⟨rfl, q2, rfl⟩
                    go_wp2_with fail
                    go_roundw
                    case rel => exact ⟨r + 1, by omega, by go_num, (((HMR.out.alloc _).drewN q).alloc _).drewN q2⟩
                    case measure => simp [intOf]; omega
                · have HB2 := hide (HB1.out.trans (hm.bel.mono HB1.out.size))
                  have hrn' : ¬ (r : Int) < (N : Int) := by omega
                  clear hm
                  go_wp2_with fail
                  go_ret
                  exact ⟨rfl, HB2.out⟩
    · go_wp2_with fail
      go_ret
      exact ⟨rfl, Below.refl _ _⟩
end Go.Proofs.Qxb6601196a
