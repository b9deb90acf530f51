import Derived.Test.Qxb6601196aKey
namespace Go.Proofs.Qxb6601196a
open Go.ChangeShapes Go.WideShapes Go.ChangeAt Go.RowKit Go.Deep
set_option linter.unusedVariables false

/-- what the map of numbers holds: the styles of L, each at its place and one -/
structure Table (D : DataW Unit) (L : List Sty) : Prop where
  size : Maps.size D = L.length
  at_ : ∀ (j : Nat) (s : Sty), L[j]? = some s → D.atKey (kd s) (.lit (.int .u32 0)) = .lit (.int .u32 ((j : Int) + 1))
  has : ∀ s, Wf s → Maps.has D (kd s) = decide (s ∈ L)

theorem table_nil : Table (.map []) [] := ⟨rfl, fun j s h => by simp at h, fun s _ => by simp [Maps.has]⟩

theorem kd_key {s : Sty} (h : Wf s) : WideAt.IsKeyLit (kd s) := law59.key (key59 s h)

theorem Table.add {D : DataW Unit} {L : List Sty} {s : Sty} (h : Table D L) (ht : Maps.Tidy D) (hL : ∀ x, x ∈ L → Wf x) (hs : Wf s) (hn : s ∉ L) {n : Nat} (hlen : n = L.length + 1) :
    Table (D.put (kd s) (.lit (.int .u32 (n : Int)))) (L ++ [s]) := by
  have hk := kd_key hs
  have h0 : Maps.has D (kd s) = false := by rw [h.has s hs]; simp [hn]
  refine ⟨?_, ?_, ?_⟩
  · rw [Maps.size_put ht, h0, h.size]
    simp
  · intro j t hj
    by_cases hjl : j < L.length
    · rw [List.getElem?_append_left hjl] at hj
      have hm := List.mem_of_getElem? hj
      have hne : kd t ≠ kd s := fun e => hn (by rw [← kd_inj (hL t hm) hs e]; exact hm)
      rw [Maps.atKey_put_other hne]
      exact h.at_ j t hj
    · rw [List.getElem?_append_right (by omega)] at hj
      have hj0 : j - L.length = 0 := by
        have := (List.getElem?_eq_some_iff.1 hj).1
        simp at this
        omega
      rw [hj0] at hj
      simp at hj
      subst hj
      rw [Maps.atKey_put_same ht.isMap hk]
      have : (n : Int) = (j : Int) + 1 := by omega
      rw [this]
  · intro t hw
    by_cases e : t = s
    · subst e
      rw [Maps.has_put_same ht.isMap hk]
      simp
    · have hne : kd t ≠ kd s := fun e' => e (kd_inj hw hs e')
      rw [Maps.has_put_other hne, h.has t hw]
      simp [e]

/-- the cells of a row of styles -/
def flatS (L : List Sty) : List Value := L.flatMap fun s => (styC s).toList
theorem flatS_len (L : List Sty) : (flatS L).length = L.length * 14 := by
  induction L with
  | nil => rfl
  | cons s L ih => simp only [flatS, List.flatMap_cons, List.length_append, List.length_cons] at *; rw [ih]; simp [styC]; omega
theorem flatS_snoc (L : List Sty) (s : Sty) : flatS (L ++ [s]) = flatS L ++ (styC s).toList := by simp [flatS]
theorem flatS_at : ∀ (L : List Sty) (j : Nat) (s : Sty), L[j]? = some s → ∀ k, k < 14 → (flatS L)[j * 14 + k]? = (styC s)[k]?
  | [], j, s, h, k, hk => by simp at h
  | y :: L, 0, s, h, k, hk => by
    simp at h
    subst h
    rw [Nat.zero_mul, Nat.zero_add]
    show ((styC y).toList ++ flatS L)[k]? = _
    rw [List.getElem?_append_left (by simpa [styC] using hk)]
    simp
  | y :: L, j + 1, s, h, k, hk => by
    have h' : L[j]? = some s := by simpa using h
    show ((styC y).toList ++ flatS L)[(j + 1) * 14 + k]? = _
    rw [List.getElem?_append_right (by simp [styC]; omega)]
    have e : (j + 1) * 14 + k - (styC y).toList.length = j * 14 + k := by simp [styC]; omega
    rw [e]
    exact flatS_at L j s h' k hk

/-- the number of a style, and the table behind its naming -/
def numOf (L : List Sty) (s : Sty) : Int := if s = Sty.zero then 0 else (L.idxOf s : Int) + 1
def addS (L : List Sty) (s : Sty) : List Sty := if s = Sty.zero ∨ s ∈ L then L else L ++ [s]

end Go.Proofs.Qxb6601196a
