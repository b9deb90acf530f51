import Derived.Test.Qxb6601196aMerge
namespace Go.Proofs.Qxb6601196a
open Go.ChangeShapes Go.WideShapes Go.ChangeAt Go.RowKit Go.Deep

set_option maxHeartbeats 1000000 in
theorem fields_any (b : Nat) (u1 u2 : Option Addr) (p s bl : Int) (cs : Option Addr) (n c : Nat) (w : World) (h0 : w.cell? ⟨b, 0, none⟩ = some (.pointer u1)) (h1 : w.cell? ⟨b, 1, none⟩ = some (.pointer u2)) (h2 : w.cell? ⟨b, 2, none⟩ = some (.int .u32 p)) (h3 : w.cell? ⟨b, 3, none⟩ = some (.int .i64 s)) (h4 : w.cell? ⟨b, 4, none⟩ = some (.slice cs n c)) (h5 : w.cell? ⟨b, 5, none⟩ = some (.int .i64 bl)) :
    Calls Try.prog 35 #[.pointer (some ⟨b, 0, none⟩)] w fun e w' => e = .returned (.tuple #[.pointer u1, .pointer u2, .int .u32 p, .int .i64 s, .slice cs n c, .int .i64 bl]) ∧ ∃ q, w' = w.drewN q := by
  go_enter Try.func35, Try.ntmps35
  go_wp2_with fail
  go_quiet (fail)
  go_wp2_with fail
  exact bodyPost_ret (v := .tuple #[.pointer u1, .pointer u2, .int .u32 p, .int .i64 s, .slice cs n c, .int .i64 bl]) (by simp [results, Try.results35, go_sem]) rfl ⟨rfl, nq, rfl⟩

/-- heapT, as a Bool -/
def rootB : BT PI → Int → Bool
  | .nil, _ => true
  | .node _ _ a _ _, p => decide (a.pr ≤ p)
def heapB : BT PI → Bool
  | .nil => true
  | .node _ _ a l r => rootB l a.pr && rootB r a.pr && heapB l && heapB r
theorem rootB_iff : ∀ (T : BT PI) (p : Int), rootB T p = true ↔ rootLe T p
  | .nil, _ => by simp [rootB, rootLe]
  | .node _ _ a _ _, p => by simp [rootB, rootLe]
theorem heapB_iff : ∀ T : BT PI, heapB T = true ↔ heapT T
  | .nil => by simp [heapB, heapT]
  | .node b o a l r => by
    simp only [heapB, heapT, Bool.and_eq_true, rootB_iff, heapB_iff l, heapB_iff r]
    constructor
    · rintro ⟨⟨⟨h1, h2⟩, h3⟩, h4⟩; exact ⟨h1, h2, h3, h4⟩
    · rintro ⟨h1, h2, h3, h4⟩; exact ⟨⟨⟨h1, h2⟩, h3⟩, h4⟩

/-- the fields of a tree's root -/
theorem fields_tree (b : Nat) (a : PI) (l r : BT PI) (w : World) (h : TIn w (.node b 0 a l r)) :
    ∃ u1 u2 cs c, l.ptr = .pointer u1 ∧ r.ptr = .pointer u2 ∧ a.cs = .slice cs a.n c ∧ cs.isNone = a.nl ∧ ∀ w', w'.heap = w.heap →
      Calls Try.prog 35 #[.pointer (some ⟨b, 0, none⟩)] w' fun e w'' => e = .returned (.tuple #[.pointer u1, .pointer u2, .int .u32 a.pr, .int .i64 (colsT l + a.cols + colsT r), .slice cs a.n c, .int .i64 a.bl]) ∧ ∃ q, w'' = w'.drewN q := by
  obtain ⟨u1, hu1⟩ := ptr_form l
  obtain ⟨u2, hu2⟩ := ptr_form r
  obtain ⟨x, c, hx, hn⟩ := cs_form h.2.2.1
  refine ⟨u1, u2, x, c, hu1, hu2, hx, hn, ?_⟩
  intro w' hw
  have s6 := six_of (w := w') (by rw [hw]; exact h.2.1)
  exact fields_any b u1 u2 _ _ _ x a.n c w' (by rw [s6.c0, hu1]) (by rw [s6.c1, hu2]) s6.c2 s6.c3 (by rw [s6.c4, hx]) s6.c5

set_option maxHeartbeats 400000 in
theorem heap_nil_nil_t (b : Nat) (pr s bl : Int) (cs : Option Addr) (n c : Nat) (w : World) (hf : ∀ w', w'.heap = w.heap → Calls Try.prog 35 #[.pointer (some ⟨b, 0, none⟩)] w' fun e w'' => e = .returned (.tuple #[.pointer (none), .pointer (none), .int .u32 pr, .int .i64 s, .slice cs n c, .int .i64 bl]) ∧ ∃ q, w'' = w'.drewN q) (ihl : ∀ w', w'.heap = w.heap → Calls Try.prog 15 #[.pointer (none)] w' fun e w'' => e = .returned (.bool true) ∧ ∃ q, w'' = w'.drewN q) (hr : Bool) (ihr : ∀ w', w'.heap = w.heap → Calls Try.prog 15 #[.pointer (none)] w' fun e w'' => e = .returned (.bool hr) ∧ ∃ q, w'' = w'.drewN q) :
    Calls Try.prog 15 #[.pointer (some ⟨b, 0, none⟩)] w fun e w' => e = .returned (.bool hr) ∧ ∃ q, w' = w.drewN q := by
  have HF := hide hf
  have IHl := hide ihl
  have IHr := hide ihr
  clear hf ihl ihr
  go_enter Try.func15, Try.ntmps15
  go_wp2_with fail
  refine (HF.out _ (by rfl)).mono ?_
  rintro e w1 ⟨rfl, q, rfl⟩
  go_wp2_with fail
  refine (IHl.out _ (by rfl)).mono ?_
  rintro e w1 ⟨rfl, q5, rfl⟩
  go_wp2_with fail
  refine (IHr.out _ (by rfl)).mono ?_
  rintro e w1 ⟨rfl, q6, rfl⟩
  go_wp2_with fail
  go_ret
  exact ⟨rfl, _, rfl⟩

set_option maxHeartbeats 400000 in
theorem heap_nil_nil_f (b : Nat) (pr s bl : Int) (cs : Option Addr) (n c : Nat) (w : World) (hf : ∀ w', w'.heap = w.heap → Calls Try.prog 35 #[.pointer (some ⟨b, 0, none⟩)] w' fun e w'' => e = .returned (.tuple #[.pointer (none), .pointer (none), .int .u32 pr, .int .i64 s, .slice cs n c, .int .i64 bl]) ∧ ∃ q, w'' = w'.drewN q) (ihl : ∀ w', w'.heap = w.heap → Calls Try.prog 15 #[.pointer (none)] w' fun e w'' => e = .returned (.bool false) ∧ ∃ q, w'' = w'.drewN q) :
    Calls Try.prog 15 #[.pointer (some ⟨b, 0, none⟩)] w fun e w' => e = .returned (.bool false) ∧ ∃ q, w' = w.drewN q := by
  have HF := hide hf
  have IHl := hide ihl
  clear hf ihl
  go_enter Try.func15, Try.ntmps15
  go_wp2_with fail
  refine (HF.out _ (by rfl)).mono ?_
  rintro e w1 ⟨rfl, q, rfl⟩
  go_wp2_with fail
  refine (IHl.out _ (by rfl)).mono ?_
  rintro e w1 ⟨rfl, q5, rfl⟩
  go_wp2_with fail
  go_ret
  exact ⟨rfl, _, rfl⟩

set_option maxHeartbeats 400000 in
theorem heap_nil_ok_t (b : Nat) (pr s bl : Int) (cs : Option Addr) (n c : Nat) (w : World) (br1 : Nat) (p2 s2 l2 : Int) (cs2 : Option Addr) (n2 c2 : Nat) (v3 v4 : Option Addr) (hpr : p2 ≤ pr) (hf : ∀ w', w'.heap = w.heap → Calls Try.prog 35 #[.pointer (some ⟨b, 0, none⟩)] w' fun e w'' => e = .returned (.tuple #[.pointer (none), .pointer (some ⟨br1, 0, none⟩), .int .u32 pr, .int .i64 s, .slice cs n c, .int .i64 bl]) ∧ ∃ q, w'' = w'.drewN q) (hfr : ∀ w', w'.heap = w.heap → Calls Try.prog 35 #[.pointer (some ⟨br1, 0, none⟩)] w' fun e w'' => e = .returned (.tuple #[.pointer (v3), .pointer (v4), .int .u32 p2, .int .i64 s2, .slice cs2 n2 c2, .int .i64 l2]) ∧ ∃ q, w'' = w'.drewN q) (ihl : ∀ w', w'.heap = w.heap → Calls Try.prog 15 #[.pointer (none)] w' fun e w'' => e = .returned (.bool true) ∧ ∃ q, w'' = w'.drewN q) (hr : Bool) (ihr : ∀ w', w'.heap = w.heap → Calls Try.prog 15 #[.pointer (some ⟨br1, 0, none⟩)] w' fun e w'' => e = .returned (.bool hr) ∧ ∃ q, w'' = w'.drewN q) :
    Calls Try.prog 15 #[.pointer (some ⟨b, 0, none⟩)] w fun e w' => e = .returned (.bool hr) ∧ ∃ q, w' = w.drewN q := by
  have HF := hide hf
  have HFr := hide hfr
  have IHl := hide ihl
  have IHr := hide ihr
  clear hf hfr ihl ihr
  go_enter Try.func15, Try.ntmps15
  go_wp2_with fail
  refine (HF.out _ (by rfl)).mono ?_
  rintro e w1 ⟨rfl, q, rfl⟩
  go_wp2_with fail
  refine (HFr.out _ (by rfl)).mono ?_
  rintro e w1 ⟨rfl, qr, rfl⟩
  go_wp2_with fail
  refine (IHl.out _ (by rfl)).mono ?_
  rintro e w1 ⟨rfl, q5, rfl⟩
  go_wp2_with fail
  refine (IHr.out _ (by rfl)).mono ?_
  rintro e w1 ⟨rfl, q6, rfl⟩
  go_wp2_with fail
  go_ret
  exact ⟨rfl, _, rfl⟩

set_option maxHeartbeats 400000 in
theorem heap_nil_ok_f (b : Nat) (pr s bl : Int) (cs : Option Addr) (n c : Nat) (w : World) (br1 : Nat) (p2 s2 l2 : Int) (cs2 : Option Addr) (n2 c2 : Nat) (v3 v4 : Option Addr) (hpr : p2 ≤ pr) (hf : ∀ w', w'.heap = w.heap → Calls Try.prog 35 #[.pointer (some ⟨b, 0, none⟩)] w' fun e w'' => e = .returned (.tuple #[.pointer (none), .pointer (some ⟨br1, 0, none⟩), .int .u32 pr, .int .i64 s, .slice cs n c, .int .i64 bl]) ∧ ∃ q, w'' = w'.drewN q) (hfr : ∀ w', w'.heap = w.heap → Calls Try.prog 35 #[.pointer (some ⟨br1, 0, none⟩)] w' fun e w'' => e = .returned (.tuple #[.pointer (v3), .pointer (v4), .int .u32 p2, .int .i64 s2, .slice cs2 n2 c2, .int .i64 l2]) ∧ ∃ q, w'' = w'.drewN q) (ihl : ∀ w', w'.heap = w.heap → Calls Try.prog 15 #[.pointer (none)] w' fun e w'' => e = .returned (.bool false) ∧ ∃ q, w'' = w'.drewN q) :
    Calls Try.prog 15 #[.pointer (some ⟨b, 0, none⟩)] w fun e w' => e = .returned (.bool false) ∧ ∃ q, w' = w.drewN q := by
  have HF := hide hf
  have HFr := hide hfr
  have IHl := hide ihl
  clear hf hfr ihl
  go_enter Try.func15, Try.ntmps15
  go_wp2_with fail
  refine (HF.out _ (by rfl)).mono ?_
  rintro e w1 ⟨rfl, q, rfl⟩
  go_wp2_with fail
  refine (HFr.out _ (by rfl)).mono ?_
  rintro e w1 ⟨rfl, qr, rfl⟩
  go_wp2_with fail
  refine (IHl.out _ (by rfl)).mono ?_
  rintro e w1 ⟨rfl, q5, rfl⟩
  go_wp2_with fail
  go_ret
  exact ⟨rfl, _, rfl⟩

set_option maxHeartbeats 400000 in
theorem heap_nil_bad (b : Nat) (pr s bl : Int) (cs : Option Addr) (n c : Nat) (w : World) (br1 : Nat) (p2 s2 l2 : Int) (cs2 : Option Addr) (n2 c2 : Nat) (v3 v4 : Option Addr) (hpr : pr < p2) (hf : ∀ w', w'.heap = w.heap → Calls Try.prog 35 #[.pointer (some ⟨b, 0, none⟩)] w' fun e w'' => e = .returned (.tuple #[.pointer (none), .pointer (some ⟨br1, 0, none⟩), .int .u32 pr, .int .i64 s, .slice cs n c, .int .i64 bl]) ∧ ∃ q, w'' = w'.drewN q) (hfr : ∀ w', w'.heap = w.heap → Calls Try.prog 35 #[.pointer (some ⟨br1, 0, none⟩)] w' fun e w'' => e = .returned (.tuple #[.pointer (v3), .pointer (v4), .int .u32 p2, .int .i64 s2, .slice cs2 n2 c2, .int .i64 l2]) ∧ ∃ q, w'' = w'.drewN q) :
    Calls Try.prog 15 #[.pointer (some ⟨b, 0, none⟩)] w fun e w' => e = .returned (.bool false) ∧ ∃ q, w' = w.drewN q := by
  have HF := hide hf
  have HFr := hide hfr
  clear hf hfr
  go_enter Try.func15, Try.ntmps15
  go_wp2_with fail
  refine (HF.out _ (by rfl)).mono ?_
  rintro e w1 ⟨rfl, q, rfl⟩
  go_wp2_with fail
  refine (HFr.out _ (by rfl)).mono ?_
  rintro e w1 ⟨rfl, qr, rfl⟩
  go_wp2_with fail
  go_ret
  exact ⟨rfl, _, rfl⟩

set_option maxHeartbeats 400000 in
theorem heap_ok_nil_t (b : Nat) (pr s bl : Int) (cs : Option Addr) (n c : Nat) (w : World) (bl1 : Nat) (pl sl ll : Int) (csl : Option Addr) (nl cl : Nat) (v1 v2 : Option Addr) (hpl : pl ≤ pr) (hf : ∀ w', w'.heap = w.heap → Calls Try.prog 35 #[.pointer (some ⟨b, 0, none⟩)] w' fun e w'' => e = .returned (.tuple #[.pointer (some ⟨bl1, 0, none⟩), .pointer (none), .int .u32 pr, .int .i64 s, .slice cs n c, .int .i64 bl]) ∧ ∃ q, w'' = w'.drewN q) (hfl : ∀ w', w'.heap = w.heap → Calls Try.prog 35 #[.pointer (some ⟨bl1, 0, none⟩)] w' fun e w'' => e = .returned (.tuple #[.pointer (v1), .pointer (v2), .int .u32 pl, .int .i64 sl, .slice csl nl cl, .int .i64 ll]) ∧ ∃ q, w'' = w'.drewN q) (ihl : ∀ w', w'.heap = w.heap → Calls Try.prog 15 #[.pointer (some ⟨bl1, 0, none⟩)] w' fun e w'' => e = .returned (.bool true) ∧ ∃ q, w'' = w'.drewN q) (hr : Bool) (ihr : ∀ w', w'.heap = w.heap → Calls Try.prog 15 #[.pointer (none)] w' fun e w'' => e = .returned (.bool hr) ∧ ∃ q, w'' = w'.drewN q) :
    Calls Try.prog 15 #[.pointer (some ⟨b, 0, none⟩)] w fun e w' => e = .returned (.bool hr) ∧ ∃ q, w' = w.drewN q := by
  have HF := hide hf
  have HFl := hide hfl
  have IHl := hide ihl
  have IHr := hide ihr
  clear hf hfl ihl ihr
  go_enter Try.func15, Try.ntmps15
  go_wp2_with fail
  refine (HF.out _ (by rfl)).mono ?_
  rintro e w1 ⟨rfl, q, rfl⟩
  go_wp2_with fail
  refine (HFl.out _ (by rfl)).mono ?_
  rintro e w1 ⟨rfl, ql, rfl⟩
  go_wp2_with fail
  refine (IHl.out _ (by rfl)).mono ?_
  rintro e w1 ⟨rfl, q5, rfl⟩
  go_wp2_with fail
  refine (IHr.out _ (by rfl)).mono ?_
  rintro e w1 ⟨rfl, q6, rfl⟩
  go_wp2_with fail
  go_ret
  exact ⟨rfl, _, rfl⟩

set_option maxHeartbeats 400000 in
theorem heap_ok_nil_f (b : Nat) (pr s bl : Int) (cs : Option Addr) (n c : Nat) (w : World) (bl1 : Nat) (pl sl ll : Int) (csl : Option Addr) (nl cl : Nat) (v1 v2 : Option Addr) (hpl : pl ≤ pr) (hf : ∀ w', w'.heap = w.heap → Calls Try.prog 35 #[.pointer (some ⟨b, 0, none⟩)] w' fun e w'' => e = .returned (.tuple #[.pointer (some ⟨bl1, 0, none⟩), .pointer (none), .int .u32 pr, .int .i64 s, .slice cs n c, .int .i64 bl]) ∧ ∃ q, w'' = w'.drewN q) (hfl : ∀ w', w'.heap = w.heap → Calls Try.prog 35 #[.pointer (some ⟨bl1, 0, none⟩)] w' fun e w'' => e = .returned (.tuple #[.pointer (v1), .pointer (v2), .int .u32 pl, .int .i64 sl, .slice csl nl cl, .int .i64 ll]) ∧ ∃ q, w'' = w'.drewN q) (ihl : ∀ w', w'.heap = w.heap → Calls Try.prog 15 #[.pointer (some ⟨bl1, 0, none⟩)] w' fun e w'' => e = .returned (.bool false) ∧ ∃ q, w'' = w'.drewN q) :
    Calls Try.prog 15 #[.pointer (some ⟨b, 0, none⟩)] w fun e w' => e = .returned (.bool false) ∧ ∃ q, w' = w.drewN q := by
  have HF := hide hf
  have HFl := hide hfl
  have IHl := hide ihl
  clear hf hfl ihl
  go_enter Try.func15, Try.ntmps15
  go_wp2_with fail
  refine (HF.out _ (by rfl)).mono ?_
  rintro e w1 ⟨rfl, q, rfl⟩
  go_wp2_with fail
  refine (HFl.out _ (by rfl)).mono ?_
  rintro e w1 ⟨rfl, ql, rfl⟩
  go_wp2_with fail
  refine (IHl.out _ (by rfl)).mono ?_
  rintro e w1 ⟨rfl, q5, rfl⟩
  go_wp2_with fail
  go_ret
  exact ⟨rfl, _, rfl⟩

set_option maxHeartbeats 400000 in
theorem heap_ok_ok_t (b : Nat) (pr s bl : Int) (cs : Option Addr) (n c : Nat) (w : World) (bl1 : Nat) (pl sl ll : Int) (csl : Option Addr) (nl cl : Nat) (v1 v2 : Option Addr) (br1 : Nat) (p2 s2 l2 : Int) (cs2 : Option Addr) (n2 c2 : Nat) (v3 v4 : Option Addr) (hpl : pl ≤ pr) (hpr : p2 ≤ pr) (hf : ∀ w', w'.heap = w.heap → Calls Try.prog 35 #[.pointer (some ⟨b, 0, none⟩)] w' fun e w'' => e = .returned (.tuple #[.pointer (some ⟨bl1, 0, none⟩), .pointer (some ⟨br1, 0, none⟩), .int .u32 pr, .int .i64 s, .slice cs n c, .int .i64 bl]) ∧ ∃ q, w'' = w'.drewN q) (hfl : ∀ w', w'.heap = w.heap → Calls Try.prog 35 #[.pointer (some ⟨bl1, 0, none⟩)] w' fun e w'' => e = .returned (.tuple #[.pointer (v1), .pointer (v2), .int .u32 pl, .int .i64 sl, .slice csl nl cl, .int .i64 ll]) ∧ ∃ q, w'' = w'.drewN q) (hfr : ∀ w', w'.heap = w.heap → Calls Try.prog 35 #[.pointer (some ⟨br1, 0, none⟩)] w' fun e w'' => e = .returned (.tuple #[.pointer (v3), .pointer (v4), .int .u32 p2, .int .i64 s2, .slice cs2 n2 c2, .int .i64 l2]) ∧ ∃ q, w'' = w'.drewN q) (ihl : ∀ w', w'.heap = w.heap → Calls Try.prog 15 #[.pointer (some ⟨bl1, 0, none⟩)] w' fun e w'' => e = .returned (.bool true) ∧ ∃ q, w'' = w'.drewN q) (hr : Bool) (ihr : ∀ w', w'.heap = w.heap → Calls Try.prog 15 #[.pointer (some ⟨br1, 0, none⟩)] w' fun e w'' => e = .returned (.bool hr) ∧ ∃ q, w'' = w'.drewN q) :
    Calls Try.prog 15 #[.pointer (some ⟨b, 0, none⟩)] w fun e w' => e = .returned (.bool hr) ∧ ∃ q, w' = w.drewN q := by
  have HF := hide hf
  have HFl := hide hfl
  have HFr := hide hfr
  have IHl := hide ihl
  have IHr := hide ihr
  clear hf hfl hfr ihl ihr
  go_enter Try.func15, Try.ntmps15
  go_wp2_with fail
  refine (HF.out _ (by rfl)).mono ?_
  rintro e w1 ⟨rfl, q, rfl⟩
  go_wp2_with fail
  refine (HFl.out _ (by rfl)).mono ?_
  rintro e w1 ⟨rfl, ql, rfl⟩
  go_wp2_with fail
  refine (HFr.out _ (by rfl)).mono ?_
  rintro e w1 ⟨rfl, qr, rfl⟩
  go_wp2_with fail
  refine (IHl.out _ (by rfl)).mono ?_
  rintro e w1 ⟨rfl, q5, rfl⟩
  go_wp2_with fail
  refine (IHr.out _ (by rfl)).mono ?_
  rintro e w1 ⟨rfl, q6, rfl⟩
  go_wp2_with fail
  go_ret
  exact ⟨rfl, _, rfl⟩

set_option maxHeartbeats 400000 in
theorem heap_ok_ok_f (b : Nat) (pr s bl : Int) (cs : Option Addr) (n c : Nat) (w : World) (bl1 : Nat) (pl sl ll : Int) (csl : Option Addr) (nl cl : Nat) (v1 v2 : Option Addr) (br1 : Nat) (p2 s2 l2 : Int) (cs2 : Option Addr) (n2 c2 : Nat) (v3 v4 : Option Addr) (hpl : pl ≤ pr) (hpr : p2 ≤ pr) (hf : ∀ w', w'.heap = w.heap → Calls Try.prog 35 #[.pointer (some ⟨b, 0, none⟩)] w' fun e w'' => e = .returned (.tuple #[.pointer (some ⟨bl1, 0, none⟩), .pointer (some ⟨br1, 0, none⟩), .int .u32 pr, .int .i64 s, .slice cs n c, .int .i64 bl]) ∧ ∃ q, w'' = w'.drewN q) (hfl : ∀ w', w'.heap = w.heap → Calls Try.prog 35 #[.pointer (some ⟨bl1, 0, none⟩)] w' fun e w'' => e = .returned (.tuple #[.pointer (v1), .pointer (v2), .int .u32 pl, .int .i64 sl, .slice csl nl cl, .int .i64 ll]) ∧ ∃ q, w'' = w'.drewN q) (hfr : ∀ w', w'.heap = w.heap → Calls Try.prog 35 #[.pointer (some ⟨br1, 0, none⟩)] w' fun e w'' => e = .returned (.tuple #[.pointer (v3), .pointer (v4), .int .u32 p2, .int .i64 s2, .slice cs2 n2 c2, .int .i64 l2]) ∧ ∃ q, w'' = w'.drewN q) (ihl : ∀ w', w'.heap = w.heap → Calls Try.prog 15 #[.pointer (some ⟨bl1, 0, none⟩)] w' fun e w'' => e = .returned (.bool false) ∧ ∃ q, w'' = w'.drewN q) :
    Calls Try.prog 15 #[.pointer (some ⟨b, 0, none⟩)] w fun e w' => e = .returned (.bool false) ∧ ∃ q, w' = w.drewN q := by
  have HF := hide hf
  have HFl := hide hfl
  have HFr := hide hfr
  have IHl := hide ihl
  clear hf hfl hfr ihl
  go_enter Try.func15, Try.ntmps15
  go_wp2_with fail
  refine (HF.out _ (by rfl)).mono ?_
  rintro e w1 ⟨rfl, q, rfl⟩
  go_wp2_with fail
  refine (HFl.out _ (by rfl)).mono ?_
  rintro e w1 ⟨rfl, ql, rfl⟩
  go_wp2_with fail
  refine (HFr.out _ (by rfl)).mono ?_
  rintro e w1 ⟨rfl, qr, rfl⟩
  go_wp2_with fail
  refine (IHl.out _ (by rfl)).mono ?_
  rintro e w1 ⟨rfl, q5, rfl⟩
  go_wp2_with fail
  go_ret
  exact ⟨rfl, _, rfl⟩

set_option maxHeartbeats 400000 in
theorem heap_ok_bad (b : Nat) (pr s bl : Int) (cs : Option Addr) (n c : Nat) (w : World) (bl1 : Nat) (pl sl ll : Int) (csl : Option Addr) (nl cl : Nat) (v1 v2 : Option Addr) (br1 : Nat) (p2 s2 l2 : Int) (cs2 : Option Addr) (n2 c2 : Nat) (v3 v4 : Option Addr) (hpl : pl ≤ pr) (hpr : pr < p2) (hf : ∀ w', w'.heap = w.heap → Calls Try.prog 35 #[.pointer (some ⟨b, 0, none⟩)] w' fun e w'' => e = .returned (.tuple #[.pointer (some ⟨bl1, 0, none⟩), .pointer (some ⟨br1, 0, none⟩), .int .u32 pr, .int .i64 s, .slice cs n c, .int .i64 bl]) ∧ ∃ q, w'' = w'.drewN q) (hfl : ∀ w', w'.heap = w.heap → Calls Try.prog 35 #[.pointer (some ⟨bl1, 0, none⟩)] w' fun e w'' => e = .returned (.tuple #[.pointer (v1), .pointer (v2), .int .u32 pl, .int .i64 sl, .slice csl nl cl, .int .i64 ll]) ∧ ∃ q, w'' = w'.drewN q) (hfr : ∀ w', w'.heap = w.heap → Calls Try.prog 35 #[.pointer (some ⟨br1, 0, none⟩)] w' fun e w'' => e = .returned (.tuple #[.pointer (v3), .pointer (v4), .int .u32 p2, .int .i64 s2, .slice cs2 n2 c2, .int .i64 l2]) ∧ ∃ q, w'' = w'.drewN q) :
    Calls Try.prog 15 #[.pointer (some ⟨b, 0, none⟩)] w fun e w' => e = .returned (.bool false) ∧ ∃ q, w' = w.drewN q := by
  have HF := hide hf
  have HFl := hide hfl
  have HFr := hide hfr
  clear hf hfl hfr
  go_enter Try.func15, Try.ntmps15
  go_wp2_with fail
  refine (HF.out _ (by rfl)).mono ?_
  rintro e w1 ⟨rfl, q, rfl⟩
  go_wp2_with fail
  refine (HFl.out _ (by rfl)).mono ?_
  rintro e w1 ⟨rfl, ql, rfl⟩
  go_wp2_with fail
  refine (HFr.out _ (by rfl)).mono ?_
  rintro e w1 ⟨rfl, qr, rfl⟩
  go_wp2_with fail
  go_ret
  exact ⟨rfl, _, rfl⟩

set_option maxHeartbeats 400000 in
theorem heap_bad (b : Nat) (pr s bl : Int) (cs : Option Addr) (n c : Nat) (w : World) (bl1 : Nat) (pl sl ll : Int) (csl : Option Addr) (nl cl : Nat) (v1 v2 : Option Addr) (u2 : Option Addr) (hpl : pr < pl) (hf : ∀ w', w'.heap = w.heap → Calls Try.prog 35 #[.pointer (some ⟨b, 0, none⟩)] w' fun e w'' => e = .returned (.tuple #[.pointer (some ⟨bl1, 0, none⟩), .pointer (u2), .int .u32 pr, .int .i64 s, .slice cs n c, .int .i64 bl]) ∧ ∃ q, w'' = w'.drewN q) (hfl : ∀ w', w'.heap = w.heap → Calls Try.prog 35 #[.pointer (some ⟨bl1, 0, none⟩)] w' fun e w'' => e = .returned (.tuple #[.pointer (v1), .pointer (v2), .int .u32 pl, .int .i64 sl, .slice csl nl cl, .int .i64 ll]) ∧ ∃ q, w'' = w'.drewN q) :
    Calls Try.prog 15 #[.pointer (some ⟨b, 0, none⟩)] w fun e w' => e = .returned (.bool false) ∧ ∃ q, w' = w.drewN q := by
  have HF := hide hf
  have HFl := hide hfl
  clear hf hfl
  go_enter Try.func15, Try.ntmps15
  go_wp2_with fail
  refine (HF.out _ (by rfl)).mono ?_
  rintro e w1 ⟨rfl, q, rfl⟩
  go_wp2_with fail
  refine (HFl.out _ (by rfl)).mono ?_
  rintro e w1 ⟨rfl, ql, rfl⟩
  go_wp2_with fail
  go_ret
  exact ⟨rfl, _, rfl⟩

theorem isHeap_nil (w : World) : Calls Try.prog 15 #[.pointer none] w fun e w' => e = .returned (.bool true) ∧ ∃ q, w' = w.drewN q := by
  go_enter Try.func15, Try.ntmps15
  go_wp2_with fail
  go_ret
  exact ⟨rfl, 0, rfl⟩

theorem isHeap_any : ∀ (T : BT PI) (w : World), TIn w T → Calls Try.prog 15 #[T.ptr] w fun e w' => e = .returned (.bool (heapB T)) ∧ ∃ q, w' = w.drewN q := by
  intro T
  induction T with
  | nil => intro w _; exact isHeap_nil w
  | node b o a l r ihl ihr =>
    intro w h
    obtain rfl : o = 0 := h.1
    have hl := h.2.2.2.2.1
    have hr := h.2.2.2.2.2
    obtain ⟨u1, u2, cs, c, hu1, hu2, _, _, hf⟩ := fields_tree b a l r w h
    have kl : ∀ w', w'.heap = w.heap → Calls Try.prog 15 #[.pointer u1] w' fun e w'' => e = .returned (.bool (heapB l)) ∧ ∃ q, w'' = w'.drewN q := fun w' hw => by rw [← hu1]; exact ihl w' (tin_like hw hl)
    have kr : ∀ w', w'.heap = w.heap → Calls Try.prog 15 #[.pointer u2] w' fun e w'' => e = .returned (.bool (heapB r)) ∧ ∃ q, w'' = w'.drewN q := fun w' hw => by rw [← hu2]; exact ihr w' (tin_like hw hr)
    rw [ptr_node]
    -- the left root
    cases l with
    | nil =>
      obtain rfl : u1 = none := by rw [ptr_nil] at hu1; injection hu1 with e; exact e.symm
      cases r with
      | nil =>
        obtain rfl : u2 = none := by rw [ptr_nil] at hu2; injection hu2 with e; exact e.symm
        exact heap_nil_nil_t b a.pr _ a.bl cs a.n c w hf kl true kr
      | node b2 o2 a2 l2 r2 =>
        obtain rfl : o2 = 0 := hr.1
        obtain rfl : u2 = some ⟨b2, 0, none⟩ := by rw [ptr_node] at hu2; injection hu2 with e; exact e.symm
        obtain ⟨v3, v4, cs2, c2, _, _, _, _, hf2⟩ := fields_tree b2 a2 l2 r2 w hr
        by_cases hp : a2.pr ≤ a.pr
        · have e : heapB (.node b 0 a .nil (.node b2 0 a2 l2 r2)) = heapB (.node b2 0 a2 l2 r2) := by simp [heapB, rootB, hp]
          rw [e]
          exact heap_nil_ok_t b a.pr _ a.bl cs a.n c w b2 a2.pr _ a2.bl cs2 a2.n c2 v3 v4 hp hf hf2 kl _ kr
        · have e : heapB (.node b 0 a .nil (.node b2 0 a2 l2 r2)) = false := by simp [heapB, rootB, hp]
          rw [e]
          exact heap_nil_bad b a.pr _ a.bl cs a.n c w b2 a2.pr _ a2.bl cs2 a2.n c2 v3 v4 (by omega) hf hf2
    | node b1 o1 a1 l1 r1 =>
      obtain rfl : o1 = 0 := hl.1
      obtain rfl : u1 = some ⟨b1, 0, none⟩ := by rw [ptr_node] at hu1; injection hu1 with e; exact e.symm
      obtain ⟨v1, v2, cs1, c1, _, _, _, _, hf1⟩ := fields_tree b1 a1 l1 r1 w hl
      by_cases hp1 : a1.pr ≤ a.pr
      · cases r with
        | nil =>
          obtain rfl : u2 = none := by rw [ptr_nil] at hu2; injection hu2 with e; exact e.symm
          have e : heapB (.node b 0 a (.node b1 0 a1 l1 r1) .nil) = heapB (.node b1 0 a1 l1 r1) := by simp [heapB, rootB, hp1]
          rw [e]
          cases hh : heapB (.node b1 0 a1 l1 r1) with
          | true =>
            rw [hh] at kl
            exact heap_ok_nil_t b a.pr _ a.bl cs a.n c w b1 a1.pr _ a1.bl cs1 a1.n c1 v1 v2 hp1 hf hf1 kl true kr
          | false =>
            rw [hh] at kl
            exact heap_ok_nil_f b a.pr _ a.bl cs a.n c w b1 a1.pr _ a1.bl cs1 a1.n c1 v1 v2 hp1 hf hf1 kl
        | node b2 o2 a2 l2 r2 =>
          obtain rfl : o2 = 0 := hr.1
          obtain rfl : u2 = some ⟨b2, 0, none⟩ := by rw [ptr_node] at hu2; injection hu2 with e; exact e.symm
          obtain ⟨v3, v4, cs2, c2, _, _, _, _, hf2⟩ := fields_tree b2 a2 l2 r2 w hr
          by_cases hp : a2.pr ≤ a.pr
          · cases hh : heapB (.node b1 0 a1 l1 r1) with
            | true =>
              have e : heapB (.node b 0 a (.node b1 0 a1 l1 r1) (.node b2 0 a2 l2 r2)) = heapB (.node b2 0 a2 l2 r2) := by
                show (rootB (.node b1 0 a1 l1 r1) a.pr && rootB (.node b2 0 a2 l2 r2) a.pr && heapB (.node b1 0 a1 l1 r1) && heapB (.node b2 0 a2 l2 r2)) = _
                rw [hh]; simp [rootB, hp, hp1]
              rw [e]
              rw [hh] at kl
              exact heap_ok_ok_t b a.pr _ a.bl cs a.n c w b1 a1.pr _ a1.bl cs1 a1.n c1 v1 v2 b2 a2.pr _ a2.bl cs2 a2.n c2 v3 v4 hp1 hp hf hf1 hf2 kl _ kr
            | false =>
              have e : heapB (.node b 0 a (.node b1 0 a1 l1 r1) (.node b2 0 a2 l2 r2)) = false := by
                show (rootB (.node b1 0 a1 l1 r1) a.pr && rootB (.node b2 0 a2 l2 r2) a.pr && heapB (.node b1 0 a1 l1 r1) && heapB (.node b2 0 a2 l2 r2)) = _
                rw [hh]; simp
              rw [e]
              rw [hh] at kl
              exact heap_ok_ok_f b a.pr _ a.bl cs a.n c w b1 a1.pr _ a1.bl cs1 a1.n c1 v1 v2 b2 a2.pr _ a2.bl cs2 a2.n c2 v3 v4 hp1 hp hf hf1 hf2 kl
          · have e : heapB (.node b 0 a (.node b1 0 a1 l1 r1) (.node b2 0 a2 l2 r2)) = false := by
              show (rootB (.node b1 0 a1 l1 r1) a.pr && rootB (.node b2 0 a2 l2 r2) a.pr && heapB (.node b1 0 a1 l1 r1) && heapB (.node b2 0 a2 l2 r2)) = _
              simp [rootB, hp]
            rw [e]
            exact heap_ok_bad b a.pr _ a.bl cs a.n c w b1 a1.pr _ a1.bl cs1 a1.n c1 v1 v2 b2 a2.pr _ a2.bl cs2 a2.n c2 v3 v4 hp1 (by omega) hf hf1 hf2
      · have e : heapB (.node b 0 a (.node b1 0 a1 l1 r1) r) = false := by
          show (rootB (.node b1 0 a1 l1 r1) a.pr && rootB r a.pr && heapB (.node b1 0 a1 l1 r1) && heapB r) = _
          simp [rootB, hp1]
        rw [e]
        exact heap_bad b a.pr _ a.bl cs a.n c w b1 a1.pr _ a1.bl cs1 a1.n c1 v1 v2 u2 (by omega) hf hf1

end Go.Proofs.Qxb6601196a
