import Derived.Lib.ItoaNum
import Derived.Lib.ItoaLen
/- Plain laws of the text that Format writes: nothing of the program. -/
namespace Go.Proofs.Qxb6630591aDoor
set_option linter.unusedVariables false
set_option linter.unusedSimpArgs false

/-- Go's x + 1. -/
def inc (x : Int) : Int := IntKind.i64.wrap (x + 1)
abbrev at' (xs : List Int) (i : Nat) : Int := xs.getD i 0
/-- Element i opens a run. -/
def Opens (xs : List Int) (i : Nat) : Prop := i = 0 ∨ inc (at' xs (i - 1)) ≠ at' xs i
/-- Element i closes a run. -/
def Closes (xs : List Int) (i : Nat) : Prop := i + 1 = xs.length ∨ inc (at' xs i) ≠ at' xs (i + 1)
instance (xs : List Int) (i : Nat) : Decidable (Opens xs i) := by unfold Opens; infer_instance
instance (xs : List Int) (i : Nat) : Decidable (Closes xs i) := by unfold Closes; infer_instance
abbrev it (x : Int) : List UInt8 := Lib.itoa x
def sep (i : Nat) : List UInt8 := if 0 < i then [44] else []
/-- What element i writes. -/
def pc (xs : List Int) (i : Nat) : List UInt8 := if Opens xs i then sep i ++ it (at' xs i) else if Closes xs i then 45 :: it (at' xs i) else []
/-- The first k elements' text. -/
def fm (xs : List Int) : Nat → List UInt8
  | 0 => []
  | k + 1 => fm xs k ++ pc xs k
/-- The m elements' text from a on. -/
def fr (xs : List Int) (a : Nat) : Nat → List UInt8
  | 0 => []
  | m + 1 => fr xs a m ++ pc xs (a + m)
theorem fm_fr (xs : List Int) (a : Nat) : ∀ m, fm xs (a + m) = fm xs a ++ fr xs a m
  | 0 => by simp [fr]
  | m + 1 => by rw [← Nat.add_assoc, fm, fm_fr xs a m, fr, List.append_assoc]
theorem fr_cons (xs : List Int) (a : Nat) : ∀ m, fr xs a (m + 1) = pc xs a ++ fr xs (a + 1) m
  | 0 => by simp [fr]
  | m + 1 => by
    rw [fr, fr_cons xs a m, fr, List.append_assoc, show a + 1 + m = a + (m + 1) by omega]
theorem fr_nil (xs : List Int) (a : Nat) : ∀ m, (∀ j, a ≤ j → j < a + m → pc xs j = []) → fr xs a m = []
  | 0, _ => rfl
  | m + 1, h => by rw [fr, fr_nil xs a m fun j h1 h2 => h j h1 (by omega), h (a + m) (by omega) (by omega)]; rfl

theorem opens_succ (xs : List Int) (i : Nat) : Opens xs (i + 1) ↔ inc (at' xs i) ≠ at' xs (i + 1) := by
  unfold Opens
  simp
theorem closes_iff (xs : List Int) (i : Nat) : Closes xs i ↔ i + 1 = xs.length ∨ Opens xs (i + 1) := by rw [opens_succ]; rfl
theorem pc_open {xs : List Int} {i : Nat} (h : Opens xs i) : pc xs i = sep i ++ it (at' xs i) := by rw [pc, if_pos h]
theorem pc_close {xs : List Int} {i : Nat} (h : ¬ Opens xs i) (k : Closes xs i) : pc xs i = 45 :: it (at' xs i) := by rw [pc, if_neg h, if_pos k]
theorem pc_mid {xs : List Int} {i : Nat} (h : ¬ Opens xs i) (k : ¬ Closes xs i) : pc xs i = [] := by rw [pc, if_neg h, if_neg k]

/-- One run, f to l. -/
theorem run_text {xs : List Int} {f l : Nat} (hf : Opens xs f) (hfl : f ≤ l) (hl : l < xs.length) (hmid : ∀ j, f < j → j ≤ l → ¬ Opens xs j) (hc : Closes xs l) :
    fm xs (l + 1) = fm xs f ++ sep f ++ it (at' xs f) ++ (if f < l then 45 :: it (at' xs l) else []) := by
  have h1 : fm xs (f + 1) = fm xs f ++ sep f ++ it (at' xs f) := by rw [fm, pc_open hf, List.append_assoc]
  by_cases h : f < l
  · rw [if_pos h, ← h1, show l + 1 = (f + 1) + (l - f) by omega, fm_fr]
    congr 1
    obtain ⟨m, hm⟩ : ∃ m, l - f = m + 1 := ⟨l - f - 1, by omega⟩
    rw [hm, fr, fr_nil, show f + 1 + m = l by omega, pc_close (hmid l (by omega) (Nat.le_refl _)) hc]
    · rfl
    · intro j h1 h2
      refine pc_mid (hmid j (by omega) (by omega)) ?_
      rw [closes_iff]
      intro hh
      rcases hh with hh | hh
      · omega
      · exact hmid (j + 1) (by omega) (by omega) hh
  · obtain rfl : f = l := by omega
    rw [if_neg h, ← h1, List.append_nil]

theorem decDigits_ne (u : Nat) : Lib.decDigits u ≠ [] := by
  rw [Lib.decDigits]
  split <;> simp
theorem it_ne (x : Int) : it x ≠ [] := by
  unfold it Lib.itoa
  split
  · simp
  · exact decDigits_ne _
theorem decDigits_mem (u : Nat) : ∀ b ∈ Lib.decDigits u, 48 ≤ b.toNat ∧ b.toNat ≤ 57 := by
  induction u using Nat.strongRecOn with
  | _ u ih =>
    intro b hb
    rw [Lib.decDigits] at hb
    split at hb
    · simp at hb
      subst hb
      simp
      omega
    · rcases List.mem_append.1 hb with h | h
      · exact ih (u / 10) (by omega) b h
      · simp at h
        subst h
        simp
        omega
theorem it_no44 (x : Int) : ∀ b ∈ it x, b ≠ 44 := by
  intro b hb e
  subst e
  unfold it Lib.itoa at hb
  split at hb
  · rcases List.mem_cons.1 hb with h | h
    · cases h
    · have := decDigits_mem _ _ h; simp at this
  · have := decDigits_mem _ _ hb; simp at this
theorem it_no45 (x : Int) : ∀ (j : Nat) (b : UInt8), 0 < j → (it x)[j]? = some b → b ≠ 45 := by
  intro j b hj hb e
  subst e
  unfold it Lib.itoa at hb
  split at hb
  · obtain ⟨j, rfl⟩ : ∃ i, j = i + 1 := ⟨j - 1, by omega⟩
    rw [List.getElem?_cons_succ] at hb
    have := decDigits_mem _ _ (List.mem_of_getElem? hb); simp at this
  · have := decDigits_mem _ _ (List.mem_of_getElem? hb); simp at this

theorem fm_one (xs : List Int) : fm xs 1 = it (at' xs 0) := by
  rw [fm, pc_open (Or.inl rfl)]
  rfl
theorem fm_ne (xs : List Int) {k : Nat} (h : 0 < k) : fm xs k ≠ [] := by
  obtain ⟨m, rfl⟩ : ∃ m, k = 1 + m := ⟨k - 1, by omega⟩
  rw [fm_fr, fm_one]
  intro e
  exact it_ne _ (List.append_eq_nil_iff.1 e).1

def InI (x : Int) : Prop := -9223372036854775808 ≤ x ∧ x ≤ 9223372036854775807
theorem at_in {xs : List Int} (h : ∀ x ∈ xs, InI x) (i : Nat) : InI (at' xs i) := by
  unfold at'
  rw [List.getD_eq_getElem?_getD]
  cases he : xs[i]? with
  | none => exact ⟨by simp, by simp⟩
  | some x => exact h x (List.mem_of_getElem? he)
theorem it_len {x : Int} (h : InI x) : (it x).length ≤ 21 := Lib.itoa_length_le x h.1 h.2
theorem sep_len (i : Nat) : (sep i).length ≤ 1 := by unfold sep; split <;> simp
theorem pc_len {xs : List Int} (h : ∀ x ∈ xs, InI x) (i : Nat) : (pc xs i).length ≤ 22 := by
  have h1 := it_len (at_in h i)
  have h2 := sep_len i
  unfold pc
  split
  · rw [List.length_append]; omega
  · split
    · rw [List.length_cons]; omega
    · simp
theorem fm_len {xs : List Int} (h : ∀ x ∈ xs, InI x) : ∀ k, (fm xs k).length ≤ 22 * k
  | 0 => by simp [fm]
  | k + 1 => by
    have h1 := fm_len h k
    have h2 := pc_len h k
    rw [fm, List.length_append]
    omega

/-! The cut. -/
theorem at_take (xs : List Int) {i k : Nat} (h : i < k) : at' (xs.take k) i = at' xs i := by
  unfold at'
  rw [List.getD_eq_getElem?_getD, List.getD_eq_getElem?_getD, List.getElem?_take, if_pos h]
theorem at_drop (xs : List Int) (i k : Nat) : at' (xs.drop k) i = at' xs (k + i) := by
  unfold at'
  rw [List.getD_eq_getElem?_getD, List.getD_eq_getElem?_getD, List.getElem?_drop]
theorem opens_take (xs : List Int) {i k : Nat} (h : i < k) : Opens (xs.take k) i ↔ Opens xs i := by
  unfold Opens
  rw [at_take xs h, at_take xs (by omega)]
theorem pc_take (xs : List Int) {i k : Nat} (h : i + 1 < k) (hk : k ≤ xs.length) : pc (xs.take k) i = pc xs i := by
  have h1 := opens_take xs (show i < k by omega)
  have h2 : Closes (xs.take k) i ↔ Closes xs i := by
    rw [closes_iff, closes_iff, opens_take xs h, List.length_take]
    constructor
    · rintro (h | h)
      · omega
      · exact Or.inr h
    · rintro (h | h)
      · omega
      · exact Or.inr h
  unfold pc
  simp only [h1, h2, at_take xs (show i < k by omega)]
theorem fm_take (xs : List Int) {k : Nat} (hk : k ≤ xs.length) : ∀ i, i + 1 ≤ k → fm (xs.take k) i = fm xs i
  | 0, _ => rfl
  | i + 1, h => by rw [fm, fm, fm_take xs hk i (by omega), pc_take xs (by omega) hk]
theorem opens_drop (xs : List Int) {i k : Nat} (h : 0 < i) : Opens (xs.drop k) i ↔ Opens xs (k + i) := by
  obtain ⟨j, rfl⟩ : ∃ j, i = j + 1 := ⟨i - 1, by omega⟩
  rw [← Nat.add_assoc, opens_succ, opens_succ, at_drop, at_drop, Nat.add_assoc]
theorem closes_drop (xs : List Int) {i k : Nat} (hk : k + i < xs.length) : Closes (xs.drop k) i ↔ Closes xs (k + i) := by
  rw [closes_iff, closes_iff, opens_drop xs (by omega), List.length_drop, Nat.add_assoc]
  constructor
  · rintro (h | h)
    · exact Or.inl (by omega)
    · exact Or.inr h
  · rintro (h | h)
    · exact Or.inl (by omega)
    · exact Or.inr h
theorem pc_drop (xs : List Int) {i k : Nat} (h : 0 < i) (hk : k + i < xs.length) : pc (xs.drop k) i = pc xs (k + i) := by
  have h1 := opens_drop xs (i := i) (k := k) h
  have h2 := closes_drop xs hk
  have h3 : sep i = sep (k + i) := by unfold sep; rw [if_pos h, if_pos (by omega)]
  unfold pc
  simp only [h1, h2, at_drop, h3]
theorem fr_drop (xs : List Int) (k a : Nat) (ha : 0 < a) : ∀ m, k + a + m ≤ xs.length → fr (xs.drop k) a m = fr xs (k + a) m
  | 0, _ => rfl
  | m + 1, h => by rw [fr, fr, fr_drop xs k a ha m (by omega), pc_drop xs (by omega) (by omega), Nat.add_assoc]

/-- The cut between two runs. -/
theorem join_apart (xs : List Int) (k : Nat) (h0 : 0 < k) (hk : k < xs.length) (ho : Opens xs k) :
    fm xs xs.length = fm (xs.take k) k ++ [44] ++ fm (xs.drop k) (xs.length - k) := by
  have h1 : fm (xs.take k) k = fm xs k := by
    obtain ⟨j, rfl⟩ : ∃ j, k = j + 1 := ⟨k - 1, by omega⟩
    rw [fm, fm, fm_take xs (by omega) j (by omega)]
    congr 1
    have a1 := opens_take xs (show j < j + 1 by omega)
    have a2 : Closes (xs.take (j + 1)) j := Or.inl (by simp; omega)
    have a3 : Closes xs j := (closes_iff xs j).2 (Or.inr ho)
    unfold pc
    simp only [a1, a2, a3, at_take xs (show j < j + 1 by omega)]
  obtain ⟨m, hm⟩ : ∃ m, xs.length - k = 1 + m := ⟨xs.length - k - 1, by omega⟩
  have h2 : fm (xs.drop k) (xs.length - k) = it (at' xs k) ++ fr xs (k + 1) m := by
    rw [hm, fm_fr, fm_one, at_drop, fr_drop xs k 1 (by omega) m (by omega)]
    rfl
  have h3 : xs.length = k + (m + 1) := by omega
  rw [h2, h1]
  conv => lhs; rw [h3, fm_fr, fr_cons, pc_open ho]
  unfold sep
  rw [if_pos h0]
  simp

theorem last_open (xs : List Int) : ∀ k, ∃ f, f ≤ k ∧ Opens xs f ∧ ∀ j, f < j → j ≤ k → ¬ Opens xs j
  | 0 => ⟨0, Nat.le_refl _, Or.inl rfl, fun j h1 h2 => by omega⟩
  | k + 1 => by
    by_cases h : Opens xs (k + 1)
    · exact ⟨k + 1, Nat.le_refl _, h, fun j h1 h2 => by omega⟩
    · obtain ⟨f, h1, h2, h3⟩ := last_open xs k
      refine ⟨f, by omega, h2, fun j h4 h5 => ?_⟩
      rcases Nat.lt_or_ge k j with h6 | h6
      · obtain rfl : j = k + 1 := by omega
        exact h
      · exact h3 j h4 h6
theorem first_close (xs : List Int) : ∀ (m k : Nat), k + m + 1 = xs.length → ∃ l, k ≤ l ∧ l < xs.length ∧ Closes xs l ∧ ∀ j, k < j → j ≤ l → ¬ Opens xs j
  | 0, k, h => ⟨k, Nat.le_refl _, by omega, Or.inl (by omega), fun j h1 h2 => by omega⟩
  | m + 1, k, h => by
    by_cases ho : Opens xs (k + 1)
    · exact ⟨k, Nat.le_refl _, by omega, (closes_iff xs k).2 (Or.inr ho), fun j h1 h2 => by omega⟩
    · obtain ⟨l, h1, h2, h3, h4⟩ := first_close xs m (k + 1) (by omega)
      refine ⟨l, by omega, h2, h3, fun j h5 h6 => ?_⟩
      rcases Nat.lt_or_ge (k + 1) j with h7 | h7
      · exact h4 j h7 h6
      · obtain rfl : j = k + 1 := by omega
        exact ho

/-- The cut inside a run: both texts taken apart. -/
theorem join_run (xs : List Int) (k : Nat) (h0 : 0 < k) (hk : k < xs.length) (ho : ¬ Opens xs k) :
    ∃ (P : List UInt8) (s : Int) (E : List UInt8) (t : Int) (E2 : List UInt8) (u : Int) (R : List UInt8),
      fm (xs.take k) k = P ++ it s ++ E ∧ (P = [] ∨ ∃ P', P = P' ++ [44]) ∧ (E = [] ∨ ∃ e, E = 45 :: it e) ∧
      fm (xs.drop k) (xs.length - k) = it t ++ E2 ++ R ∧ (E2 = [] ∧ u = t ∨ E2 = 45 :: it u) ∧ (R = [] ∨ ∃ R', R = 44 :: R') ∧
      fm xs xs.length = (P ++ it s) ++ [45] ++ (it u ++ R) := by
  obtain ⟨f, hf1, hf2, hf3⟩ := last_open xs (k - 1)
  obtain ⟨l, hl1, hl2, hl3, hl4⟩ := first_close xs (xs.length - k - 1) k (by omega)
  have hmid : ∀ j, f < j → j ≤ l → ¬ Opens xs j := by
    intro j h1 h2
    rcases Nat.lt_trichotomy j k with h | h | h
    · exact hf3 j h1 (by omega)
    · subst h; exact ho
    · exact hl4 j h h2
  have hA := run_text (xs := xs.take k) (f := f) (l := k - 1) ((opens_take xs (by omega)).2 hf2) hf1 (by simp; omega) (fun j h1 h2 => by rw [opens_take xs (by omega)]; exact hf3 j h1 h2) (Or.inl (by simp; omega))
  have hB := run_text (xs := xs.drop k) (f := 0) (l := l - k) (Or.inl rfl) (by omega) (by simp; omega) (fun j h1 h2 => by rw [opens_drop xs h1]; exact hl4 (k + j) (by omega) (by omega)) ((closes_drop xs (by omega)).2 (by rw [show k + (l - k) = l by omega]; exact hl3))
  have hW := run_text hf2 (show f ≤ l by omega) hl2 hmid hl3
  rw [show k - 1 + 1 = k by omega, fm_take xs (by omega) f (by omega), at_take xs (by omega), at_take xs (by omega)] at hA
  rw [at_drop, at_drop, show k + 0 = k by omega, show k + (l - k) = l by omega] at hB
  rw [if_pos (by omega)] at hW
  obtain ⟨m, hm⟩ : ∃ m, xs.length = (l + 1) + m := ⟨xs.length - (l + 1), by omega⟩
  have hB2 : fm (xs.drop k) (xs.length - k) = fm (xs.drop k) (l - k + 1) ++ fr xs (l + 1) m := by
    rw [show xs.length - k = (l - k + 1) + m by omega, fm_fr, fr_drop xs k (l - k + 1) (by omega) m (by omega), show k + (l - k + 1) = l + 1 by omega]
  refine ⟨fm xs f ++ sep f, at' xs f, if f < k - 1 then 45 :: it (at' xs (k - 1)) else [], at' xs k, if 0 < l - k then 45 :: it (at' xs l) else [], at' xs l, fr xs (l + 1) m, hA, ?_, ?_, ?_, ?_, ?_, ?_⟩
  · by_cases h : 0 < f
    · exact Or.inr ⟨fm xs f, by unfold sep; rw [if_pos h]⟩
    · obtain rfl : f = 0 := by omega
      exact Or.inl rfl
  · split
    · exact Or.inr ⟨_, rfl⟩
    · exact Or.inl rfl
  · rw [hB2, hB]
    simp [fm, sep]
  · split
    · exact Or.inr rfl
    · obtain rfl : l = k := by omega
      exact Or.inl ⟨rfl, rfl⟩
  · cases m with
    | zero => exact Or.inl rfl
    | succ m =>
      right
      have ho2 : Opens xs (l + 1) := by
        rcases (closes_iff xs l).1 hl3 with h | h
        · omega
        · exact h
      refine ⟨it (at' xs (l + 1)) ++ fr xs (l + 1 + 1) m, ?_⟩
      rw [fr_cons, pc_open ho2]
      unfold sep
      rw [if_pos (by omega)]
      rfl
  · conv => lhs; rw [hm, fm_fr, hW]
    simp
end Go.Proofs.Qxb6630591aDoor
