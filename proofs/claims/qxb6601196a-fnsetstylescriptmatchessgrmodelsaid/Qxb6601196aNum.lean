import Derived.Test.Qxb6601196aKit
import Derived.Deep.RegionLaw
import Derived.BigRegion
namespace Go.Proofs.Qxb6601196a
open Go.ChangeShapes Go.WideShapes Go.ChangeAt Go.RowKit Go.Deep
set_option linter.unusedVariables false

theorem eql59 (s t : Sty) (w : World) : (binOp .eql 59 (styV s) (styV t)).run Try.prog w = .ok (.bool (decide (s = t))) w := by
  show (binOp .eql 59 (.agg (styC s)) (.agg (styC t))).run Try.prog w = _
  rw [run_eql_struct]
  have := eq59 s t w
  unfold styV at this
  rw [this]
  rfl
theorem neq59 (s t : Sty) (w : World) : (binOp .neq 59 (styV s) (styV t)).run Try.prog w = .ok (.bool (!decide (s = t))) w := by
  show (binOp .neq 59 (.agg (styC s)) (.agg (styC t))).run Try.prog w = _
  rw [run_neq_struct]
  have := eq59 s t w
  unfold styV at this
  rw [this]
  rfl

set_option maxRecDepth 100000 in
theorem num_zero (S : Nat) (w : World) : Calls Try.prog 43 #[.pointer (some ⟨S, 0, none⟩), styV Sty.zero] w fun e w' => e = .returned (.int .u32 0) ∧ w' = w.alloc (.cells (styC Sty.zero) 59) := by
  have h0 := eql59 Sty.zero Sty.zero
  simp only [styV, styC, Sty.zero, Col.zero, decide_true] at h0 ⊢
  go_enter Try.func43, Try.ntmps43
  go_wp2_with fail
  go_ret
  exact ⟨rfl, rfl⟩

set_option maxRecDepth 100000 in
theorem num_old (S mb : Nat) (s : Sty) (num : Int) (w : World) (hS : w.cell? ⟨S, 22, none⟩ = some (.map (some mb))) (hne : s ≠ Sty.zero)
    (hlk' : ∀ q, (Instr.lookup 61 (.map (some mb)) (styV s) true).run Try.prog ((w.alloc (.cells (styC s) 59)).drewN q) = .ok (.tuple #[.int .u32 num, .bool true]) ((w.alloc (.cells (styC s) 59)).drewN q)) : Calls Try.prog 43 #[.pointer (some ⟨S, 0, none⟩), styV s] w fun e w' => e = .returned (.int .u32 num) ∧ ∃ q, w' = (w.alloc (.cells (styC s) 59)).drewN q := by
  have h0 := eql59 s Sty.zero
  rw [decide_eq_false hne] at h0
  have hSl := block_lt_of_cell hS
  simp only [styV, styC, Sty.zero, Col.zero] at h0 hlk' ⊢
  go_enter Try.func43, Try.ntmps43
  go_wp2_with fail
  go_quiet (fail)
  go_wp2_with fail
  go_ret
  exact ⟨rfl, _, rfl⟩
theorem eql61 (mo : Option Nat) (w : World) : (binOp .eql 61 (.map mo) (.map none)).run Try.prog w = .ok (.bool mo.isNone) w := by
  cases mo <;> kernel_rfl

theorem step_app59 {P : Program} {ops : Array Oper} {o : Oper} {a : Act} {w : World} {K : Act → World → Prop} {Q : Exit → Act → World → Prop} {E : Prop} (hgd : o.guard = none) (sl x : Operand) (t u : TypeId)
    (ho : o.op = .call { callee := .builtin .append, args := #[sl, x], argTypes := #[t, u] }) (v y v' : Value) (w' : World) (hs : a.eval sl = v) (hx : a.eval x = y)
    (hr : ∀ ty, (Builtin.append_ #[t, u] ty #[v, y]).run P w = .ok v' w') (h : K (a.put o.dst v') w') :
    if Region.wanted o (yielded ops a.tmps) = true then Oper.wp P o a w K Q else E := by
  have hw : Region.wanted o (yielded ops a.tmps) = true := by simp [Region.wanted, hgd]
  rw [if_pos hw]
  unfold Oper.wp execOp
  simp only [ho, resolve, invoke, builtin, Sem.run_bind, Sem.run_pure, Result.andThen_ok, List.map_toArray, List.map_cons, List.map_nil, hs, hx, hr]
  exact h

/-- a style that is not in the map -/
theorem look_new {w : World} {S B : Nat} {s0 s : Sty} {num : Int} {sv mv : Value} {L M : List Sty} (h : Scr w S B s0 num sv mv L M) (hw : Wf s) (hn : s ∉ M) : (Instr.lookup 61 mv (styV s) true).run Try.prog w = .ok (.tuple #[.int .u32 0, .bool false]) w := by
  rcases h.map with ⟨rfl, _⟩ | ⟨mb, D, rfl, h2, h3⟩
  · exact Maps.look_nil true law59 Try.underlying61 (zero44 w) (key59 s hw)
  · obtain ⟨v, ps, hr, hv⟩ := h2.look_ok law59 Try.underlying61 (zero44 w) (zd := .lit (.int .u32 0)) (zp := []) (plainElem_int Try.underlying44 (by decide)) (key59 s hw)
    have hf : Maps.has D (kd s) = false := by rw [h3.has s hw]; simp [hn]
    rw [Maps.atKey_of_not_has hf] at hv
    obtain ⟨c, rfl, hc, _⟩ := plainElem_int_inv Try.underlying44 hv
    rw [hf] at hr
    have : c = 0 := by
      have := congrArg Prod.fst hc
      simp at this
      exact this.symm
    rw [this] at hr
    exact hr
theorem look_old {w : World} {S B : Nat} {s0 s : Sty} {num : Int} {sv mv : Value} {L M : List Sty} (h : Scr w S B s0 num sv mv L M) (hw : Wf s) {j : Nat} (hj : M[j]? = some s) : ∃ mb, mv = .map (some mb) ∧ (Instr.lookup 61 mv (styV s) true).run Try.prog w = .ok (.tuple #[.int .u32 ((j : Int) + 1), .bool true]) w := by
  rcases h.map with ⟨rfl, rfl⟩ | ⟨mb, D, rfl, h2, h3⟩
  · simp at hj
  · refine ⟨mb, rfl, ?_⟩
    obtain ⟨v, ps, hr, hv⟩ := h2.look_ok law59 Try.underlying61 (zero44 w) (zd := .lit (.int .u32 0)) (zp := []) (plainElem_int Try.underlying44 (by decide)) (key59 s hw)
    have hf : Maps.has D (kd s) = true := by rw [h3.has s hw]; simp [List.mem_of_getElem? hj]
    rw [h3.at_ j s hj] at hv
    obtain ⟨c, rfl, hc, _⟩ := plainElem_int_inv Try.underlying44 hv
    rw [hf] at hr
    have : c = (j : Int) + 1 := by
      have := congrArg Prod.fst hc
      simp at this
      exact this.symm
    rw [this] at hr
    exact hr

theorem u32_wf {x : Int} (h1 : 0 ≤ x) (h2 : x ≤ 4294967295) : (Lit.int .u32 x).wf = true := by
  have e1 : IntKind.u32.min = 0 := by decide
  have e2 : IntKind.u32.max = 4294967295 := by decide
  simp [Lit.wf, e1, e2]
  omega
/-- the map written, all else kept -/
theorem Scr.upd {w w' : World} {S B mb : Nat} {s : Sty} {num : Int} {sv : Value} {L M M' : List Sty} {D' : DataW Unit} (h : Scr w S B s num sv (.map (some mb)) L M) (hg : w.grownBy w' (some mb))
    (hm : w'.ownsMap Try.prog 59 (plainElem Try.prog 44) mb M'.length D') (ht : Table D' M') : Scr w' S B s num sv (.map (some mb)) L M' := by
  obtain ⟨D, hown, _⟩ : ∃ D, w.ownsMap Try.prog 59 (plainElem Try.prog 44) mb M.length D ∧ Table D M := by
    rcases h.map with ⟨e, _⟩ | ⟨m, D, e, h1, h2⟩
    · cases e
    · injection e with e
      injection e with e
      subst e
      exact ⟨D, h1, h2⟩
  obtain ⟨arr, ha, hsz⟩ := h.obj
  have hne := map_ne hown ha
  have hS : w'.heap[S]? = w.heap[S]? := hg.block S h.lt (fun e => hne (by injection e with e; exact e.symm))
  refine ⟨?_, h.st.blk hS, by rw [cell_blk hS]; exact h.c20, by rw [cell_blk hS]; exact h.c21, by rw [cell_blk hS]; exact h.c22, ?_, .inr ⟨mb, D', rfl, hm, ht⟩⟩
  · rw [hS]; exact h.obj
  · refine h.row.kept hg ?_
    cases hv : sv.ownBlock with
    | none => exact .inl rfl
    | some k =>
      obtain ⟨_, c, hc⟩ := tag_own h.row k hv
      exact .inr (fun e => map_ne hown hc (by injection e with e; exact e.symm))

theorem box_old {w : World} {S B mb : Nat} {s0 : Sty} {num : Int} {sv : Value} {L : List Sty} (h : Scr w S B s0 num sv (.map (some mb)) L L) (s : Sty) (nq : Nat) :
    ∃ m, Scr ((w.alloc (.cells (styC s) 59)).drewN nq) S B s0 num sv (.map (some m)) L L ∧ StyIn ((w.alloc (.cells (styC s) 59)).drewN nq) w.heap.size s ∧ Turn w ((w.alloc (.cells (styC s) 59)).drewN nq) S sv (.map (some mb)) ∧ (some mb = some m ∨ w.heap.size ≤ m) := by
  refine ⟨mb, (h.alloc _).drewN nq, ?_, ⟨rfl, rfl, rfl, ?_, ?_⟩, .inl rfl⟩
  · show (w.heap.push _)[w.heap.size]? = _
    simp
  · show w.heap.size ≤ (w.heap.push _).size
    simp
  · intro k hk _ _ _
    exact Below.heap_alloc _ _ _ hk
theorem box_map {w : World} {S B : Nat} {s0 : Sty} {num : Int} {sv : Value} {L : List Sty} (h : Scr w S B s0 num sv (.map none) L L) (hL : L = []) (s : Sty) (nq : Nat) :
    ∃ m, Scr ((((w.alloc (.cells (styC s) 59)).drewN nq).setCell ⟨S, 22, none⟩ (.map (some (w.heap.size + 1)))).alloc (.map #[] 0)) S B s0 num sv (.map (some m)) L L ∧ StyIn ((((w.alloc (.cells (styC s) 59)).drewN nq).setCell ⟨S, 22, none⟩ (.map (some (w.heap.size + 1)))).alloc (.map #[] 0)) w.heap.size s ∧ Turn w ((((w.alloc (.cells (styC s) 59)).drewN nq).setCell ⟨S, 22, none⟩ (.map (some (w.heap.size + 1)))).alloc (.map #[] 0)) S sv (.map none) ∧ (none = some m ∨ w.heap.size ≤ m) := by
  subst hL
  have hsz : ((w.alloc (.cells (styC s) 59)).drewN nq).heap.size = w.heap.size + 1 := by show (w.heap.push _).size = _; simp
  have h1 := ((h.alloc (.cells (styC s) 59)).drewN nq).newMap
  rw [hsz] at h1
  have hSl := h.lt
  have hb : ∀ k, k < w.heap.size + 1 → k ≠ S → ((((w.alloc (.cells (styC s) 59)).drewN nq).setCell ⟨S, 22, none⟩ (.map (some (w.heap.size + 1)))).alloc (.map #[] 0)).heap[k]? = (w.alloc (.cells (styC s) 59)).heap[k]? := by
    intro k hk hne
    rw [Below.heap_alloc _ _ _ (by simp [World.setCell]; omega), heap_setCell_other _ _ _ _ hne]
    rfl
  refine ⟨_, h1, ?_, ⟨rfl, rfl, rfl, ?_, ?_⟩, .inr (by omega)⟩
  · show ((((w.alloc (.cells (styC s) 59)).drewN nq).setCell ⟨S, 22, none⟩ (.map (some (w.heap.size + 1)))).alloc (.map #[] 0)).heap[w.heap.size]? = _
    rw [hb _ (by omega) (by omega)]
    show (w.heap.push _)[w.heap.size]? = _
    simp
  · simp [World.setCell]; omega
  · intro k hk hne _ _
    rw [hb k (by omega) hne]
    exact Below.heap_alloc _ _ _ hk

set_option maxRecDepth 100000 in
set_option maxHeartbeats 1000000 in
theorem num_new (S B : Nat) (s0 s : Sty) (n0 : Int) (sv mv : Value) (L : List Sty) (w : World) (h : Scr w S B s0 n0 sv mv L L) (hw : Wf s) (hL : ∀ x, x ∈ L → Wf x) (hne : s ≠ Sty.zero) (hn : s ∉ L) (hl : L.length ≤ 4096) (hB : B ≤ w.heap.size) :
    Calls Try.prog 43 #[.pointer (some ⟨S, 0, none⟩), styV s] w fun e w' => e = .returned (.int .u32 ((L.length : Int) + 1)) ∧ ∃ sv' mv', Scr w' S B s0 n0 sv' mv' (L ++ [s]) (L ++ [s]) ∧ Turn w w' S sv mv ∧ (sv'.ownBlock = sv.ownBlock ∨ ∃ g, sv'.ownBlock = some g ∧ w.heap.size ≤ g) ∧ (∀ m, mv' = .map (some m) → mv = .map (some m) ∨ w.heap.size ≤ m) := by
  have h0 := eql59 s Sty.zero
  rw [decide_eq_false hne] at h0
  have hSl := h.lt
  have c22 := h.c22
  have f22 := h.st.fr 22
  have hlk := fun n => look_new ((h.alloc (.cells (styC s) 59)).drewN n) hw hn
  obtain ⟨mo, hmo⟩ : ∃ mo, mv = .map mo := by
    rcases h.map with ⟨e, _⟩ | ⟨mb, D, e, _⟩
    · exact ⟨_, e⟩
    · exact ⟨_, e⟩
  subst hmo
  have HS := hide h
  have heq := eql61 mo
  clear h
  simp only [styV, styC, Sty.zero, Col.zero] at h0 hlk ⊢
  go_enter Try.func43, Try.ntmps43
  go_wp2_with fail
  go_quiet (fail)
  clear hlk h0
  go_upto_if 25 with fail
  go_cut [] (fun wx => ∃ mb, Scr wx S B s0 n0 sv (.map (some mb)) L L ∧ StyIn wx w.heap.size s ∧ Turn w wx S sv (.map mo) ∧ (mo = some mb ∨ w.heap.size ≤ mb))
  case first =>
    cases mo with
    | none =>
      have hmm := @run_makeMap Try.prog
      have hLn : L = [] := by
        rcases HS.out.map with ⟨_, e⟩ | ⟨mb, D, e, _⟩
        · exact e
        · cases e
      have HLN := hide hLn
      clear hLn
      have HM := hide (box_map HS.out HLN.out s nq)
      clear HS HLN
      go_wp2_with fail
      go_meet
      exact HM.out
    | some mb =>
      have HM := hide (box_old HS.out s nq)
      clear HS
      go_wp2_with fail
      go_meet
      exact HM.out
  case rest =>
    obtain ⟨mb, hsc, hst, htn, hmb⟩ := hcut
    obtain ⟨n, hnL⟩ : ∃ n, n = L.length := ⟨_, rfl⟩
    obtain ⟨sa, sc, hsv⟩ := row_shape hsc.row
    have hsz := htn.size
    have hrlt : ∀ k, sv.ownBlock = some k → k < w.heap.size := fun k hk => by
      obtain ⟨_, c, hc⟩ := tag_own HS.out.row k hk
      exact (Array.getElem?_eq_some_iff.1 hc).1
    obtain ⟨a', c', w5, hr5, hown5, hg5, hloc5⟩ := app_sty wc.drew B sv L hsc.row (by omega) (by show B ≤ wc.heap.size; omega) s
    rw [← hnL] at hr5 hown5 hloc5 hsv
    subst hsv
    have hr5' : ∀ ty, (Builtin.append_ #[60, 60] ty #[.slice sa n sc, .slice (some ⟨wc.heap.size, 0, none⟩) 1 1]).run Try.prog ((wc.alloc (.cells (styC s) 59)).drew) = .ok (.slice a' (n + 1) c') w5 := hr5
    have hS5 : w5.heap[S]? = wc.heap[S]? := by
      rw [hg5.block S (by have := hsc.lt; simp; omega) (fun e => hsc.notRow e.symm)]
      exact Below.heap_alloc _ _ _ hsc.lt
    have y21 := hsc.c21
    have yf := hsc.st.fr 21
    have x21 : w5.cell? ⟨S, 21, none⟩ = some (.slice sa n sc) := by rw [cell_blk hS5]; exact y21
    have xf : w5.frozen? ⟨S, 21, none⟩ = false := by rw [frozen_blk hS5]; exact yf
    have hat := hst.at
    have k0 := hat.c0
    have k1 := hat.c1
    have k2 := hat.c2
    have k3 := hat.c3
    have k4 := hat.c4
    have k5 := hat.c5
    have k6 := hat.c6
    have k7 := hat.c7
    have k8 := hat.c8
    have k9 := hat.c9
    have k10 := hat.c10
    have k11 := hat.c11
    have k12 := hat.c12
    have k13 := hat.c13
    have hXl : w.heap.size < wc.heap.size := (Array.getElem?_eq_some_iff.1 hst).1
    have hSc := hsc.lt
    have hrow5 : w5.ownsRow B 59 14 (.slice a' (n + 1) c') (L ++ [s]).length (flatS (L ++ [s])) := by
      rw [show (L ++ [s]).length = n + 1 by simp [hnL]]
      exact hown5
    have hsc6 : Scr (w5.setCell ⟨S, 21, none⟩ (.slice a' (n + 1) c')) S B s0 n0 (.slice a' (n + 1) c') (.map (some mb)) (L ++ [s]) L := ((hsc.drewN 1).alloc (.cells (styC s) 59)).app hg5 hrow5
    have HR5 := hide hr5'
    have HSC6 := hide hsc6
    have HST := hide hst
    have HTN := hide htn
    have HG5 := hide hg5
    have HLOC := hide hloc5
    have HMB := hide hmb
    have HNL := hide hnL
    have HSC := hide hsc
    simp only [styC] at HR5
    clear hr5 hr5' hsc6 hst htn hg5 hloc5 hmb hnL hsc hown5 hrow5 hS5 hat c22 f22 HS heq
    go_upto_region 8 with fail
    go_cut [] (fun wx => wx = w5.setCell ⟨S, 21, none⟩ (.slice a' (n + 1) c'))
    case first =>
      go_region_law (refine step_app59 rfl (.tmp 34) (.tmp 36) 60 60 rfl _ _ _ _ (by simp [Act.eval]) (by simp [Act.eval]) HR5.out ?_)
      all_goals (go_wp2_with fail; go_meet; rfl)
    case rest =>
      subst hcut
      have hnx : w.heap.size ≠ S := by omega
      have hst6 : StyIn (w5.setCell ⟨S, 21, none⟩ (.slice a' (n + 1) c')) w.heap.size s := by
        show (w5.setCell ⟨S, 21, none⟩ (.slice a' (n + 1) c')).heap[w.heap.size]? = _
        rw [heap_setCell_other _ _ _ _ hnx, HG5.out.block w.heap.size (by simp; omega) (fun e => Nat.lt_irrefl _ (hrlt _ e.symm))]
        have : (wc.drew.alloc (.cells (styC s) 59)).heap[w.heap.size]? = wc.heap[w.heap.size]? := Below.heap_alloc wc _ _ hXl
        rw [this]
        exact HST.out
      have htn6 : Turn w (w5.setCell ⟨S, 21, none⟩ (.slice a' (n + 1) c')) S (.slice sa n sc) (.map mo) := by
        refine ⟨HG5.out.os.trans HTN.out.os, HG5.out.tape.trans HTN.out.tape, HG5.out.output.trans HTN.out.output, ?_, ?_⟩
        · have := HG5.out.size
          simp [World.setCell] at this ⊢
          omega
        · intro k hk h1 h2 h3
          rw [heap_setCell_other _ _ _ _ h1, HG5.out.block k (by simp; omega) h2]
          have : (wc.drew.alloc (.cells (styC s) 59)).heap[k]? = wc.heap[k]? := Below.heap_alloc wc _ _ (by omega)
          rw [this]
          exact HTN.out.block k hk h1 h2 h3
      generalize w5.setCell ⟨S, 21, none⟩ (.slice a' (n + 1) c') = w6 at *
      obtain ⟨D, hown6, htab⟩ : ∃ D, w6.ownsMap Try.prog 59 (plainElem Try.prog 44) mb L.length D ∧ Table D L := by
        rcases HSC6.out.map with ⟨e, _⟩ | ⟨m, D, e, h1, h2⟩
        · cases e
        · injection e with e
          injection e with e
          subst e
          exact ⟨D, h1, h2⟩
      have hn1 : n + 1 = L.length + 1 := by rw [HNL.out]
      have hown6' : w6.drew.ownsMap Try.prog 59 (plainElem Try.prog 44) mb L.length D := hown6
      obtain ⟨w7, hru, hown7, hg7⟩ := hown6'.update law59 Try.underlying61 (by unfold maxLen; omega) (key59 s hw) (val := .int .u32 (((n + 1 : Nat) : Int))) (plainElem_int Try.underlying44 (u32_wf (by omega) (by omega)))
      have htab7 := htab.add (hown6.tidy law59) hL hw hn hn1
      have hsc7 : Scr w7 S B s0 n0 (.slice a' (n + 1) c') (.map (some mb)) (L ++ [s]) (L ++ [s]) := (HSC6.out.drewN 1).upd hg7 (by simpa using hown7) htab7
      have htn7 : Turn w w7 S (.slice sa n sc) (.map mo) := by
        refine ⟨hg7.os.trans htn6.os, hg7.tape.trans htn6.tape, hg7.output.trans htn6.output, Nat.le_trans htn6.size hg7.size, ?_⟩
        intro k hk h1 h2 h3
        rw [hg7.block k (by have := htn6.size; show k < w6.heap.size; omega) ?_]
        · exact htn6.block k hk h1 h2 h3
        · intro e
          injection e with e
          rcases HMB.out with e' | e'
          · exact h3 mb (by rw [e']) e
          · omega
      clear k0 k1 k2 k3 k4 k5 k6 k7 k8 k9 k10 k11 k12 k13
      have z21 := HSC6.out.c21
      have z22 := HSC6.out.c22
      have v21 := hsc7.c21
      have hat := hst6.at
      have k0 := hat.c0
      have k1 := hat.c1
      have k2 := hat.c2
      have k3 := hat.c3
      have k4 := hat.c4
      have k5 := hat.c5
      have k6 := hat.c6
      have k7 := hat.c7
      have k8 := hat.c8
      have k9 := hat.c9
      have k10 := hat.c10
      have k11 := hat.c11
      have k12 := hat.c12
      have k13 := hat.c13
      have HT7 := hide htn7
      have HS7 := hide hsc7
      simp only [styV, styC] at hru
      rw [show (((n + 1 : Nat)) : Int) = (n : Int) + 1 by omega] at hru
      have hn2 : n ≤ 4096 := by omega
      have HL1 := hide hn1
      clear hat htn7 hsc7 htn6 hst6 hown6 hown6' hown7 htab htab7 hg7 hn1 HSC6 HR5 HST HTN HG5 HSC y21 yf x21 xf
      go_upto_region 9 with fail
      go_cut [] (fun wx => wx = w7)
      case first =>
        go_region
        all_goals (go_wp2_with fail; go_meet; rfl)
      case rest =>
        subst hcut
        go_wp2_with fail
        go_ret
        refine ⟨by rw [HNL.out]; rfl, _, _, HS7.out, HT7.out, ?_, fun m e => by
          injection e with e
          injection e with e
          rcases HMB.out with e' | e'
          · exact .inl (by rw [e', e])
          · exact .inr (by omega)⟩
        rcases HLOC.out with e | e
        · exact .inl e
        · exact .inr ⟨_, e, Nat.le_trans hsz (Nat.le_succ _)⟩

theorem Turn.alloc (w : World) (S : Nat) (sv mv : Value) (o : Obj) (q : Nat) : Turn w ((w.alloc o).drewN q) S sv mv := by
  refine ⟨rfl, rfl, rfl, ?_, ?_⟩
  · show w.heap.size ≤ (w.heap.push _).size
    simp
  · intro k hk _ _ _
    exact Below.heap_alloc _ _ _ hk

/-- numberStyle -/
theorem num_any (S B : Nat) (s0 s : Sty) (n0 : Int) (sv mv : Value) (L : List Sty) (w : World) (h : Scr w S B s0 n0 sv mv L L) (hw : Wf s) (hL : ∀ x, x ∈ L → Wf x) (hl : L.length ≤ 4096) (hB : B ≤ w.heap.size) :
    Calls Try.prog 43 #[.pointer (some ⟨S, 0, none⟩), styV s] w fun e w' => e = .returned (.int .u32 (numOf L s)) ∧ ∃ sv' mv', Scr w' S B s0 n0 sv' mv' (addS L s) (addS L s) ∧ Turn w w' S sv mv ∧ (sv'.ownBlock = sv.ownBlock ∨ ∃ g, sv'.ownBlock = some g ∧ w.heap.size ≤ g) ∧ (∀ m, mv' = .map (some m) → mv = .map (some m) ∨ w.heap.size ≤ m) := by
  by_cases hz : s = Sty.zero
  · subst hz
    refine (num_zero S w).mono ?_
    rintro e w' ⟨rfl, rfl⟩
    unfold numOf addS
    rw [if_pos rfl, if_pos (.inl rfl)]
    exact ⟨rfl, sv, mv, h.alloc _, Turn.alloc w S sv mv _ 0, .inl rfl, fun m e => .inl e⟩
  · by_cases hm : s ∈ L
    · have hj : L[L.idxOf s]? = some s := List.getElem?_eq_some_iff.2 ⟨List.idxOf_lt_length_iff.2 hm, List.getElem_idxOf _⟩
      obtain ⟨mb, rfl, _⟩ := look_old h hw hj
      refine (num_old S mb s ((L.idxOf s : Int) + 1) w h.c22 hz (fun q => (look_old ((h.alloc (.cells (styC s) 59)).drewN q) hw hj).elim fun _ hx => hx.2)).mono ?_
      rintro e w' ⟨rfl, q, rfl⟩
      unfold numOf addS
      rw [if_neg hz, if_pos (.inr hm)]
      exact ⟨rfl, sv, _, (h.alloc _).drewN q, Turn.alloc w S sv _ _ q, .inl rfl, fun m e => .inl e⟩
    · refine (num_new S B s0 s n0 sv mv L w h hw hL hz hm hl hB).mono ?_
      rintro e w' ⟨rfl, hr⟩
      unfold numOf addS
      rw [if_neg hz, if_neg (by simp [hz, hm]), List.idxOf_eq_length hm]
      exact ⟨rfl, hr⟩
end Go.Proofs.Qxb6601196a
