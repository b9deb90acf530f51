import Derived.Test.Qxb6601196aBuild
import Derived.Test.Qxb6601196aOpen
namespace Go.Proofs.Qxb6601196a
open Go.ChangeShapes Go.WideShapes Go.ChangeAt Go.RowKit Go.Deep
set_option linter.unusedVariables false

theorem copy_fits : ∀ (T : BT PayT) (R : BT PI), Copy T R → Fits T → (∀ x, x ∈ inorder R → 0 ≤ x.2.cols ∧ x.2.n ≤ 131072)
  | .nil, .nil, _, _ => by simp [inorder]
  | .node _ _ p l r, .node _ _ a l' r', ⟨h1, h2, h3, h4, h5, h6⟩, ⟨f1, f2, f3, f4⟩ => by
    intro x hx
    simp only [inorder, List.mem_append, List.mem_cons] at hx
    rcases hx with hx | rfl | hx
    · exact copy_fits l l' h5 f3 x hx
    · have : a.cols = p.cols := by unfold PI.cols PayT.cols; rw [h3, h2, h4]
      exact ⟨by rw [this]; exact f1, by rw [h4]; exact f2⟩
    · exact copy_fits r r' h6 f4 x hx
  | .nil, .node _ _ _ _ _, h, _ => by cases h
  | .node _ _ _ _ _, .nil, h, _ => by cases h

/-- the builder's state where only pieces turn -/
theorem BSt.same {w w' : World} {Bd : Nat} {nd : Int} {ov sv : Value} {Ls : List Value} {Ss : List (Int × Int × Value)} (h : BSt w Bd nd ov sv Ls Ss) {L : List Nat} (hs : SameBut w w' L) (hl : ∀ k, k ∈ L → ∃ c, w.heap[k]? = some (.cells c 103 (0, 0))) : BSt w' Bd nd ov sv Ls Ss := by
  have key : ∀ (k : Nat) (c : Array Value) (t : TypeId), t ≠ 103 → w.heap[k]? = some (.cells c t (0, 0)) → w'.heap[k]? = w.heap[k]? := by
    intro k c t ht hk
    apply hs.block k
    intro hm
    obtain ⟨c', hc'⟩ := hl k hm
    rw [hc'] at hk
    injection hk with hk
    injection hk with _ e _
    exact ht e.symm
  have row : ∀ {e : TypeId} {size n : Nat} {v : Value} {xs : List Value}, e ≠ 103 → w.ownsRow (Bd + 1) e size v n xs → w'.ownsRow (Bd + 1) e size v n xs := by
    intro e size n v xs he ho
    refine ⟨ho.1, ?_⟩
    rcases ho.2 with h1 | ⟨g, cap, cur, hv, hg, hh, hr⟩
    · exact .inl h1
    · exact .inr ⟨g, cap, cur, hv, hg, by rw [key g cur e he hh]; exact hh, hr⟩
  exact ⟨by rw [key Bd _ 36 (by decide) h.c]; exact h.c, row (by decide) h.o, row (by decide) h.s⟩

theorem flat_at : ∀ (S : List (Int × Int × Value)) (j : Nat) (x : Int × Int × Value), S[j]? = some x → (flat S)[j * 3]? = some (.int .u32 x.1) ∧ (flat S)[j * 3 + 1]? = some (.int .i64 x.2.1) ∧ (flat S)[j * 3 + 2]? = some x.2.2
  | [], j, x, h => by simp at h
  | y :: S, 0, x, h => by simp at h; subst h; exact ⟨rfl, rfl, rfl⟩
  | y :: S, j + 1, x, h => by
    have h' : S[j]? = some x := by simpa using h
    obtain ⟨a, b, c⟩ := flat_at S j x h'
    refine ⟨?_, ?_, ?_⟩
    · rw [show (j + 1) * 3 = j * 3 + 3 by omega]; exact a
    · rw [show (j + 1) * 3 + 1 = j * 3 + 1 + 3 by omega]; exact b
    · rw [show (j + 1) * 3 + 2 = j * 3 + 2 + 3 by omega]; exact c

/-- an owned row of some length lies at the head of a block -/
theorem own_some {w : World} {base : Nat} {e : TypeId} {size n : Nat} {v : Value} {xs : List Value} (h : w.ownsRow base e size v n xs) (hn : 0 < n) : ∃ g c, v = .slice (some ⟨g, 0, none⟩) n c ∧ base ≤ g ∧ ∀ j u, xs[j]? = some u → w.cell? ⟨g, j, none⟩ = some u := by
  rcases h.2 with ⟨_, h2⟩ | ⟨g, cap, cur, hv, hb, hh, _⟩
  · omega
  · subst hv
    refine ⟨g, cap, rfl, hb, ?_⟩
    intro j u hj
    have := World.ownsRow.cells (h := h) (g := g) rfl j u hj
    rwa [add_plain, Nat.zero_add] at this

theorem env_of {w : World} {Bd C : Nat} {nd : Int} {ov sv : Value} {L : List (Nat × PI)} (h : BSt w Bd nd ov sv (L.map fun x => .pointer (some ⟨x.1, 0, none⟩)) (L.map fun x => (x.2.pr, x.2.bl, x.2.sn))) (hL : 0 < L.length) (hC : w.heap.size ≤ C) :
    ∃ wb cw sb cs', ov = .slice (some ⟨wb, 0, none⟩) L.length cw ∧ sv = .slice (some ⟨sb, 0, none⟩) L.length cs' ∧ Env w C wb sb L.length L := by
  have ho := h.o
  have hs := h.s
  rw [List.length_map] at ho hs
  obtain ⟨wb, cw, e1, _, k1⟩ := own_some ho hL
  obtain ⟨sb, cs', e2, _, k2⟩ := own_some hs hL
  have hw : wb < w.heap.size := by
    have := k1 0 (.pointer (some ⟨(L[0]'hL).1, 0, none⟩)) (by simp [List.getElem?_eq_getElem hL])
    exact block_lt_of_cell this
  have hs' : sb < w.heap.size := by
    have h0 := (flat_at (L.map fun x => (x.2.pr, x.2.bl, x.2.sn)) 0 _ (by simp [List.getElem?_eq_getElem hL]; rfl)).1
    exact block_lt_of_cell (k2 _ _ h0)
  refine ⟨wb, cw, sb, cs', e1, e2, rfl, ?_, ?_, ?_, ?_, by omega, by omega⟩
  · intro j x hx
    exact k1 j _ (by rw [List.getElem?_map, hx]; rfl)
  · intro j x hx
    exact k2 _ _ (flat_at (L.map fun x => (x.2.pr, x.2.bl, x.2.sn)) j (x.2.pr, x.2.bl, x.2.sn) (by rw [List.getElem?_map, hx]; rfl)).1
  · intro j x hx
    exact k2 _ _ (flat_at (L.map fun x => (x.2.pr, x.2.bl, x.2.sn)) j (x.2.pr, x.2.bl, x.2.sn) (by rw [List.getElem?_map, hx]; rfl)).2.1
  · intro j x hx
    exact k2 _ _ (flat_at (L.map fun x => (x.2.pr, x.2.bl, x.2.sn)) j (x.2.pr, x.2.bl, x.2.sn) (by rw [List.getElem?_map, hx]; rfl)).2.2

theorem PTIn.mono {w : World} {B B' : Nat} (h : B ≤ B') : ∀ {T : BT PayT}, PTIn w B T → PTIn w B' T
  | .nil, _ => trivial
  | .node b o p l r, ⟨h0, h1, h2, h3, h4, h5, h6, h6b, h7, h8, h9⟩ => by
    refine ⟨by omega, h1, h2, h3, h4, h5, h6, h6b, ?_, PTIn.mono h h8, PTIn.mono h h9⟩
    intro hn
    obtain ⟨cb, co, e, hb, hj⟩ := h7 hn
    exact ⟨cb, co, e, by omega, hj⟩

theorem bst_new (w : World) : BSt (w.alloc (.cells (bldCells 0 (.slice none 0 0) (.slice none 0 0)) 36)) w.heap.size 0 (.slice none 0 0) (.slice none 0 0) [] [] where
  c := by
    show (w.heap.push _)[w.heap.size]? = _
    simp
  o := World.ownsRow_nil _ _ _ _
  s := World.ownsRow_nil _ _ _ _
theorem keep_below {w w' : World} {Bd : Nat} (h : Keep w w' Bd) {B : Nat} (hB : B ≤ Bd) (hs : Bd ≤ w.heap.size) : Below B w w' := ⟨h.os, h.tape, h.output, h.size, fun k hk => h.block k (by omega) (by omega) (.inl (by omega))⟩

/-- all that stands ahead of merge -/
structure Ready (w w4 : World) (Bd : Nat) (A B : BT PayT) (Ra Rb : BT PI) (ov sv : Value) : Prop where
  ta : TIn w4 Ra
  tb : TIn w4 Rb
  nd : (blocks Ra ++ blocks Rb).Nodup
  ca : Copy A Ra
  cb : Copy B Rb
  st : BSt w4 Bd (nodesP A + nodesP B) ov sv (ptrs Ra ++ ptrs Rb) (snaps Ra ++ snaps Rb)
  old : Below w.heap.size w w4
  hB : w.heap.size ≤ Bd
  new : ∀ k, k ∈ blocks Ra ++ blocks Rb → w.heap.size ≤ k

theorem ready_of {w W2 w3 w4 : World} {Bd : Nat} {A B : BT PayT} {Ra Rb : BT PI} {n3 : Int} {ova sva ov sv : Value} (h0 : Below w.heap.size w W2) (hBd : w.heap.size ≤ Bd) (hW : Bd ≤ W2.heap.size) (h3 : BSt w3 Bd n3 ova sva ([] ++ ptrs Ra) ([] ++ snaps Ra)) (b3 : Built W2 w3 Bd A Ra) (h4 : BSt w4 Bd (0 + nodesP A + nodesP B) ov sv ([] ++ ptrs Ra ++ ptrs Rb) ([] ++ snaps Ra ++ snaps Rb)) (b4 : Built w3 w4 Bd B Rb) :
    Ready w w4 Bd A B Ra Rb ov sv where
  ta := b4.keep.tin h3.c b3.tin
  tb := b4.tin
  nd := List.nodup_append.2 ⟨b3.nodup, b4.nodup, fun x hx y hy e => by
    subst e
    have := b3.new x hx
    have := b4.new x hy
    omega⟩
  ca := b3.copy
  cb := b4.copy
  st := by
    have := h4
    rw [List.nil_append, List.nil_append, Int.zero_add] at this
    exact this
  old := (h0.trans (keep_below b3.keep hBd hW)).trans (keep_below b4.keep hBd (by have := b3.keep.size; omega))
  hB := hBd
  new := fun k hk => by
    rcases List.mem_append.1 hk with hk | hk
    · have := b3.new k hk
      omega
    · have := b4.new k hk
      have := b3.keep.size
      omega

theorem ptrs_io {M Ra Rb : BT PI} (h : inorder M = inorder Ra ++ inorder Rb) : ptrs M = ptrs Ra ++ ptrs Rb := by simp [ptrs, h]
theorem snaps_io {M Ra Rb : BT PI} (h : inorder M = inorder Ra ++ inorder Rb) : snaps M = snaps Ra ++ snaps Rb := by simp [snaps, h]

/-- what stands behind merge -/
structure After (w w6 : World) (Bd : Nat) (hp : Bool) (nd : Int) (M : BT PI) (ov sv : Value) : Prop where
  tin : TIn w6 M
  st : BSt w6 Bd nd ov sv (ptrs M) (snaps M)
  old : Below w.heap.size w w6
  heap : hp = true → heapT M
  nn : NN M
  n17 : ∀ x, x ∈ inorder M → x.2.n ≤ 131072
  cols : colsT M ≤ 1073741824
  nodes : nodesT M ≤ 16384

theorem after_of {w w4 w6 : World} {Bd q : Nat} {A B : BT PayT} {Ra Rb M : BT PI} {ov sv : Value} (h : Ready w w4 Bd A B Ra Rb ov sv) (hf : FitBoth A B) (hm' : Merged (w4.drewN q) w6 Ra Rb M) :
    After w w6 Bd (heapB Ra && heapB Rb) (nodesP A + nodesP B) M ov sv := by
  have hm := merged_drew hm'
  have fa := copy_fits _ _ h.ca hf.fa
  have fb := copy_fits _ _ h.cb hf.fb
  have both : ∀ x, x ∈ inorder M → 0 ≤ x.2.cols ∧ x.2.n ≤ 131072 := by
    intro x hx
    rw [hm.io] at hx
    rcases List.mem_append.1 hx with hx | hx
    · exact fa x hx
    · exact fb x hx
  refine ⟨hm.tin, ?_, ?_, ?_, fun x hx => (both x hx).1, fun x hx => (both x hx).2, ?_, ?_⟩
  · rw [ptrs_io hm.io, snaps_io hm.io]
    refine h.st.same hm.same ?_
    intro k hk
    rcases List.mem_append.1 hk with hk | hk
    · exact h.ta.tag k hk
    · exact h.tb.tag k hk
  · refine h.old.trans ⟨hm.same.os, hm.same.tape, hm.same.output, by rw [hm.same.size]; exact Nat.le_refl _, ?_⟩
    intro k hk
    apply hm.same.block
    intro hm2
    have := h.new k hm2
    omega
  · intro hp
    rw [Bool.and_eq_true] at hp
    exact hm.heap ((heapB_iff _).1 hp.1) ((heapB_iff _).1 hp.2)
  · rw [merged_cols hm, copy_cols _ _ h.ca, copy_cols _ _ h.cb]
    exact hf.cols
  · rw [← nodesT_length, hm.io, List.length_append, nodesT_length, nodesT_length, copy_nodes _ _ h.ca, copy_nodes _ _ h.cb]
    exact hf.nodes

theorem TIn.alloc {w : World} (o : Obj) : ∀ {T : BT PI}, TIn w T → TIn (w.alloc o) T := fun {T} ht =>
  TIn.kept (fun k c t fr _ hk => by rw [Below.heap_alloc _ _ _ (Array.getElem?_eq_some_iff.1 hk).1]) ht (fun k hk => by
    obtain ⟨c, hc⟩ := ht.tag k hk
    rw [Below.heap_alloc _ _ _ (Array.getElem?_eq_some_iff.1 hc).1])

theorem chk_all {w w6 : World} {Bd : Nat} {hp : Bool} {nd : Int} {M : BT PI} {ov sv : Value} (h : After w w6 Bd hp nd M ov sv) :
    Calls Try.prog 17 #[.pointer (some ⟨w6.heap.size, 0, none⟩), M.ptr, .int .u32 0, .bool false] (w6.alloc (.cells (chkCells ov sv 0 0 true hp) 42)) fun e w' => ∃ x, e = .returned (.int .i64 x) ∧
      Run (w6.alloc (.cells (chkCells ov sv 0 0 true hp) 42)) w' w6.heap.size ov sv (nodesT M) (nodesT M) true hp := by
  have hc : (w6.alloc (.cells (chkCells ov sv 0 0 true hp) 42)).heap[w6.heap.size]? = some (.cells (chkCells ov sv 0 0 true hp) 42 (0, 0)) := by
    show (w6.heap.push _)[w6.heap.size]? = _
    simp
  have hcase : M = .nil ∨ 0 < (inorder M).length := by
    cases M with
    | nil => exact .inl rfl
    | node b o a l r => right; rw [nodesT_length]; simp only [nodesT]; omega
  rcases hcase with hM | hlen
  · subst hM
    refine (chk_nil _ _ _ _).mono ?_
    rintro e w' ⟨rfl, rfl⟩
    exact ⟨0, rfl, hc, grown_refl _ _⟩
  · obtain ⟨wb, cw, sb, cs', rfl, rfl, hE⟩ := env_of (C := w6.heap.size) (L := inorder M) h.st hlen (Nat.le_refl _)
    have hE' := hE.grown (World.grownBy_alloc w6 (.cells (chkCells (.slice (some ⟨wb, 0, none⟩) (inorder M).length cw) (.slice (some ⟨sb, 0, none⟩) (inorder M).length cs') 0 0 true hp) 42) (some w6.heap.size))
    have hx := chk_any w6.heap.size wb sb (inorder M).length cw cs' (inorder M) hp (by rw [nodesT_length]; exact h.nodes) M [] [] 0 0 false _ hE' (by simp) (h.tin.alloc _) hc ⟨by omega, by rw [nodesT_length]; omega⟩ h.heap (fun _ hh => by cases hh) h.nn h.cols h.n17
    refine hx.mono ?_
    rintro e w' ⟨rfl, hr⟩
    refine ⟨_, rfl, ?_⟩
    simpa using hr

theorem law5_old {w w6 w7 : World} {Bd : Nat} {hp : Bool} {nd : Int} {M : BT PI} {ov sv : Value} (h : After w w6 Bd hp nd M ov sv) {o : Obj} (hg : (w6.alloc o).grownBy w7 (some w6.heap.size)) : Below w.heap.size w w7 := by
  have hs := h.old.size
  have h1 := h.old.alloc hs o
  have h1s := h1.size
  refine h1.trans ⟨hg.os, hg.tape, hg.output, hg.size, ?_⟩
  intro k hk
  exact hg.block k (by omega) (by intro e; injection e with e; omega)

set_option maxHeartbeats 2000000 in
set_option maxRecDepth 100000 in
theorem law5_main (A B : BT PayT) (w : World) (hA : PTIn w w.heap.size A) (hB : PTIn w w.heap.size B) :
    Calls Try.prog 5 #[A.ptr, B.ptr] w fun e w' => e = .returned (.bool true) ∧ Below w.heap.size w w' := by
  have hx := piecesFit_any A B w hA hB
  obtain ⟨ua, hua⟩ := ptrP A
  obtain ⟨ub, hub⟩ := ptrP B
  rw [hua, hub] at hx ⊢
  have HX := hide hx
  have HA := hide hA
  have HB := hide hB
  have HUA := hide hua
  have HUB := hide hub
  clear hx hA hB hua hub
  go_enter Try.func5, Try.ntmps5
  go_wp2_with fail
  refine HX.out.mono ?_
  rintro e w1 ⟨ok, rfl, hb, hok⟩
  cases ok with
  | false =>
    have HBE := hide hb
    clear hb hok
    go_wp2_with fail
    go_ret
    exact ⟨rfl, HBE.out⟩
  | true =>
    have hfit := hok rfl
    have hst := bst_new w1
    have hs1 := hb.size
    have hb2 : Below w.heap.size w (w1.alloc (.cells (bldCells 0 (.slice none 0 0) (.slice none 0 0)) 36)) := hb.alloc hs1 _
    have ka := build_any w1.heap.size A 0 _ _ [] [] _ hst ((HA.out.below fun k hk => hb2.block k hk).mono hs1) hfit.fa (by omega) (by have := hfit.nodes; omega) (by have := hfit.nodes; simp; omega) (by have := hfit.nodes; simp; omega) (by have := hfit.cols; have := hfit.cb; omega)
    rw [HUA.out] at ka
    have KA := hide ka
    have HB2 := hide hb2
    have HFIT := hide hfit
    clear ka hb hok hfit hst hb2 HX
    simp only [bldCells] at KA HB2
    go_wp2_with fail
    refine KA.out.mono ?_
    rintro e w3 ⟨Ra, ova, sva, rfl, hst3, hb3⟩
    obtain ⟨va, hva⟩ := ptr_form Ra
    rw [hva]
    have hna := copy_nodes _ _ hb3.copy
    have h3s : w1.heap.size ≤ w3.heap.size := by have := hb3.keep.size; simp at this; omega
    have hb3' : Below w.heap.size w w3 := HB2.out.trans (keep_below hb3.keep hs1 (by simp))
    have kb := build_any w1.heap.size B _ _ _ _ _ w3 hst3 ((HB.out.below fun k hk => hb3'.block k hk).mono hs1) HFIT.out.fb (by omega) (by have := HFIT.out.nodes; omega) (by have := HFIT.out.nodes; simp only [List.nil_append, ptrs_length]; omega) (by have := HFIT.out.nodes; simp only [List.nil_append, snaps_length]; omega) (by have := HFIT.out.cols; have := HFIT.out.ca; omega)
    rw [HUB.out] at kb
    have KB := hide kb
    have HST3 := hide hst3
    have HB3 := hide hb3
    have HVA := hide hva
    clear kb hst3 hb3 hva hna hb3' KA
    go_wp2_with fail
    refine KB.out.mono ?_
    rintro e w4 ⟨Rb, ov, sv, rfl, hst4, hb4⟩
    obtain ⟨vb, hvb⟩ := ptr_form Rb
    rw [hvb]
    have hrd := ready_of HB2.out hs1 (by simp) HST3.out HB3.out hst4 hb4
    have z1 := hrd.st.at.c1
    have HRD := hide hrd
    have HVB := hide hvb
    obtain ⟨xa, hxa⟩ : ∃ x, x = heapB Ra := ⟨_, rfl⟩
    obtain ⟨xb, hxb⟩ : ∃ x, x = heapB Rb := ⟨_, rfl⟩
    have hia : ∀ w', w'.heap = w4.heap → Calls Try.prog 15 #[Value.pointer va] w' fun e w'' => e = .returned (.bool xa) ∧ ∃ q, w'' = w'.drewN q := by
      intro w' hw
      have := isHeap_any Ra w' (tin_like hw hrd.ta)
      rwa [HVA.out, ← hxa] at this
    have hib : ∀ w', w'.heap = w4.heap → Calls Try.prog 15 #[Value.pointer vb] w' fun e w'' => e = .returned (.bool xb) ∧ ∃ q, w'' = w'.drewN q := by
      intro w' hw
      have := isHeap_any Rb w' (tin_like hw hrd.tb)
      rwa [hvb, ← hxb] at this
    have HIA := hide hia
    have HIB := hide hib
    have HXA := hide hxa
    have HXB := hide hxb
    clear hst4 hb4 hvb hrd KB hia hib hxa hxb
    go_upto_region 8 with fail
    go_cut [8] (fun s wx => s = .bool (xa && xb) ∧ ∃ q, wx = w4.drewN q)
    case first =>
      clear HRD HB3 HST3 HFIT HB2 HA HB HXA HXB
      cases xa with
      | false =>
        go_wp2_with fail
        refine (HIA.out _ (by rfl)).mono ?_
        rintro e wx ⟨rfl, q, rfl⟩
        go_wp2_with fail
        go_meet
        exact ⟨rfl, _, rfl⟩
      | true =>
        go_wp2_with fail
        refine (HIA.out _ (by rfl)).mono ?_
        rintro e wx ⟨rfl, q, rfl⟩
        go_wp2_with fail
        refine (HIB.out _ (by rfl)).mono ?_
        rintro e wx ⟨rfl, q2, rfl⟩
        go_wp2_with fail
        go_meet
        exact ⟨rfl, _, rfl⟩
    case rest =>
      obtain ⟨rfl, q, hq⟩ := hcut
      have hwc : wc.heap = w4.heap := by rw [hq]; rfl
      have hm := zzmerge_any Ra Rb wc (tin_like hwc HRD.out.ta) (tin_like hwc HRD.out.tb) HRD.out.nd (fun x hx => (copy_fits _ _ HRD.out.ca HFIT.out.fa x hx).1) (fun x hx => (copy_fits _ _ HRD.out.cb HFIT.out.fb x hx).1)
        (by rw [copy_cols _ _ HRD.out.ca, copy_cols _ _ HRD.out.cb]; exact HFIT.out.cols)
      rw [HVA.out, HVB.out] at hm
      have HM := hide hm
      have HQ := hide hq
      clear hm hq hwc z1 HIA HIB
      go_wp2_with fail
      refine HM.out.mono ?_
      rintro e w6 ⟨M, rfl, hmd⟩
      rw [HQ.out] at hmd
      have haf := after_of HRD.out HFIT.out hmd
      rw [← HXA.out, ← HXB.out] at haf
      obtain ⟨um, hum⟩ := ptr_form M
      rw [hum]
      obtain ⟨n6, hn6⟩ : ∃ n6, n6 = nodesT M := ⟨_, rfl⟩
      obtain ⟨oa, oc, hov⟩ := own_shape haf.st.o
      obtain ⟨sa, sc, hsv⟩ := own_shape haf.st.s
      rw [ptrs_length, ← hn6] at hov
      rw [snaps_length, ← hn6] at hsv
      subst hov hsv
      have hck := chk_all haf
      rw [hum, ← hn6] at hck
      have hat := haf.st.at
      have y2 := hat.c2
      have y3 := hat.c3
      have hBl := haf.st.lt
      generalize (xa && xb) = hp at haf hck ⊢
      have hn16 : n6 ≤ 16384 := by rw [hn6]; exact haf.nodes
      have HAF := hide haf
      have HCK := hide hck
      clear haf hck hmd hat hum HM HQ HXA HXB HRD HB3 HST3 HFIT HB2 HA HB HVA HVB HUA HUB hn6
      simp only [chkCells] at HCK
      go_wp2_with fail
      refine HCK.out.mono ?_
      rintro e w7 ⟨x7, rfl, hr7⟩
      have hat7 := hr7.at
      have x4 := hat7.c4
      have x3 := hat7.c3
      have x2 : w7.cell? ⟨w1.heap.size, 2, none⟩ = some (.slice oa n6 oc) := grown_cell hr7.g (grown_cell (World.grownBy_alloc w6 _ (some w6.heap.size)) y2 (by show w1.heap.size ≠ w6.heap.size; omega)) (by show w1.heap.size ≠ w6.heap.size; omega)
      have hold := law5_old HAF.out hr7.g
      have HOLD := hide hold
      clear hr7 hat7 hold HAF HCK y2 y3
      go_wp2_with fail
      go_ret
      exact ⟨rfl, HOLD.out⟩

end Go.Proofs.Qxb6601196a
