import Derived.Test.Qxb6629335aDig
namespace Go.Proofs.Qxb6629335a
open Go.RowKit
set_option linter.unusedVariables false
set_option linter.unusedSimpArgs false

/-- The row at block g holds just these bytes. -/
def RowIs (w : World) (g : Nat) (nl : List Nat) : Prop := ∃ cur : Array Value, w.heap[g]? = some (.cells cur 5 (0, 0)) ∧ cur.size = nl.length ∧ ∀ (j x : Nat), nl[j]? = some x → cur[j]? = some (.int .u8 (x : Int))
theorem RowIs.cell {w : World} {g j x : Nat} {nl : List Nat} (h : RowIs w g nl) (hx : nl[j]? = some x) : w.cell? ⟨g, j, none⟩ = some (.int .u8 (x : Int)) := by
  obtain ⟨cur, h1, h2, h3⟩ := h
  rw [cell_of_row _ _ _ _ _ _ h1]
  exact h3 j x hx
theorem RowIs.frozen {w : World} {g : Nat} {nl : List Nat} (h : RowIs w g nl) : ∀ o, w.frozen? ⟨g, o, none⟩ = false := by
  obtain ⟨cur, h1, h2, h3⟩ := h
  exact fun o => frozen_of_row w g o _ _ h1
theorem RowIs.put {w : World} {g j : Nat} {nl : List Nat} {x : Nat} {v : Int} (h : RowIs w g nl) (hv : v = (x : Int)) : RowIs (w.setCell ⟨g, j, none⟩ (.int .u8 v)) g (nl.set j x) := by
  obtain ⟨cur, h1, h2, h3⟩ := h
  refine ⟨cur.setIfInBounds j (.int .u8 v), heap_setCell_same w g j cur 5 _ h1, by simp [h2], fun i y hy => ?_⟩
  rw [Array.getElem?_setIfInBounds]
  rw [List.getElem?_set] at hy
  by_cases e : j = i
  · subst e
    simp at hy
    obtain ⟨hl, rfl⟩ := hy
    simp [h2, hl, hv]
  · rw [if_neg e] at hy ⊢
    exact h3 i y hy
theorem RowIs.keep {w w' : World} {g : Nat} {nl : List Nat} (h : RowIs w g nl) (hk : w'.heap[g]? = w.heap[g]?) : RowIs w' g nl := by
  obtain ⟨cur, h1, h2, h3⟩ := h
  exact ⟨cur, hk.trans h1, h2, h3⟩
theorem RowIs.lt {w : World} {g : Nat} {nl : List Nat} (h : RowIs w g nl) : g < w.heap.size := by
  obtain ⟨cur, h1, _, _⟩ := h
  exact lt_of_block h1

/-- The first st are zero. -/
def Zs (nl : List Nat) (st : Nat) : Prop := ∀ i, i < st → nl[i]? = some 0
theorem Zs.split {nl : List Nat} {st : Nat} (h : Zs nl st) : nl = List.replicate st 0 ++ nl.drop st := by
  apply List.ext_getElem?
  intro i
  by_cases hi : i < st
  · rw [h i hi, List.getElem?_append_left (by simpa using hi)]
    simp [hi]
  · rw [List.getElem?_append_right (by simp; omega), List.getElem?_drop]
    congr 1
    simp
    omega
theorem Zs.value {nl : List Nat} {st : Nat} (h : Zs nl st) : val 256 nl = val 256 (nl.drop st) := by
  conv => lhs; rw [h.split, val_zeros]
theorem Zs.pos {nl : List Nat} {st y : Nat} (h : Zs nl st) (hy : nl[st]? = some y) (h0 : y ≠ 0) : 0 < val 256 nl := by
  rw [h.value]
  have hs := (List.getElem?_eq_some_iff.1 hy)
  have : nl.drop st = y :: nl.drop (st + 1) := by rw [← hs.2, List.getElem_cons_drop]
  rw [this, val_cons]
  have := Nat.mul_pos (Nat.pos_of_ne_zero h0) (Nat.pow_pos (n := (nl.drop (st + 1)).length) (show 0 < 256 by omega))
  omega
theorem Zs.zero {nl : List Nat} {st : Nat} (h : Zs nl st) (hl : nl.length ≤ st) : val 256 nl = 0 := by
  rw [h.value, List.drop_eq_nil_of_le hl]
  rfl
theorem Zs.step {nl : List Nat} {st : Nat} (h : Zs nl st) (h0 : nl[st]? = some 0) : Zs nl (st + 1) := fun i hi => by
  rcases Nat.lt_succ_iff_lt_or_eq.1 hi with h1 | rfl
  · exact h i h1
  · exact h0
/-- One pass over the number. -/
theorem pass_val {nl : List Nat} {st : Nat} (h : Zs nl st) : val 256 (nl.take st ++ divq 0 (nl.drop st)) = val 256 nl / 58 ∧ divr 0 (nl.drop st) = val 256 nl % 58 := by
  have h1 := div_pass (nl.drop st)
  rw [h.value, val_append]
  have : val 256 (nl.take st) = 0 := by
    have : nl.take st = List.replicate (nl.take st).length 0 := by
      apply List.ext_getElem?
      intro i
      by_cases hi : i < (nl.take st).length
      · rw [List.getElem?_replicate, if_pos hi, List.getElem?_take, if_pos (by simp at hi; omega), h i (by simp at hi; omega)]
      · rw [List.getElem?_eq_none (by omega), List.getElem?_eq_none (by simpa using hi)]
    rw [this]
    have := val_zeros 256 (nl.take st).length []
    simpa [val] using this
  rw [this, Nat.zero_mul, Nat.zero_add]
  exact h1
theorem pass_Zs {nl : List Nat} {st : Nat} (h : Zs nl st) (hl : st ≤ nl.length) : Zs (nl.take st ++ divq 0 (nl.drop st)) st := fun i hi => by
  rw [List.getElem?_append_left (by simp; omega), List.getElem?_take, if_pos hi]
  exact h i hi
end Go.Proofs.Qxb6629335a
