import Derived.Below
/- Plain arithmetic of digits: nothing of the program. -/
namespace Go.Proofs.Qxb6629335a

/-- The digits of n in base B, least first, by fuel. -/
def dgf (B : Nat) : Nat → Nat → List Nat
  | 0, _ => []
  | f + 1, n => if n = 0 then [] else n % B :: dgf B f (n / B)
/-- The digits of n in base B, least first; none for 0. -/
def D (B n : Nat) : List Nat := dgf B n n

theorem dgf_fuel {B : Nat} (hB : 2 ≤ B) : ∀ (f n : Nat), n ≤ f → dgf B f n = D B n := by
  have key : ∀ (f g n : Nat), n ≤ f → n ≤ g → dgf B f n = dgf B g n := by
    intro f
    induction f with
    | zero =>
      intro g n h1 h2
      obtain rfl : n = 0 := by omega
      cases g <;> simp [dgf]
    | succ f ih =>
      intro g n h1 h2
      by_cases h0 : n = 0
      · subst h0; cases g <;> simp [dgf]
      · cases g with
        | zero => omega
        | succ g =>
          have hlt : n / B < n := Nat.div_lt_self (by omega) hB
          simp only [dgf, if_neg h0]
          rw [ih g (n / B) (by omega) (by omega)]
  exact fun f n h => key f n n h (Nat.le_refl _)
theorem D_zero (B : Nat) : D B 0 = [] := rfl
theorem D_pos {B n : Nat} (hB : 2 ≤ B) (h : 0 < n) : D B n = n % B :: D B (n / B) := by
  have hlt : n / B < n := Nat.div_lt_self h hB
  obtain ⟨m, rfl⟩ : ∃ m, n = m + 1 := ⟨n - 1, by omega⟩
  rw [D, dgf, if_neg (by omega), dgf_fuel hB _ _ (by omega)]
theorem D_lt {B : Nat} (hB : 2 ≤ B) : ∀ (n : Nat), ∀ d ∈ D B n, d < B := by
  intro n
  induction n using Nat.strongRecOn with
  | _ n ih =>
    intro d hd
    by_cases h0 : n = 0
    · subst h0; simp [D_zero] at hd
    · rw [D_pos hB (by omega)] at hd
      rcases List.mem_cons.1 hd with rfl | hd
      · exact Nat.mod_lt _ (by omega)
      · exact ih (n / B) (Nat.div_lt_self (by omega) hB) d hd

/-- A carry pushed through digits: times M, plus c. -/
def mul (B M : Nat) : List Nat → Nat → List Nat
  | [], c => D B c
  | d :: ds, c => (c + d * M) % B :: mul B M ds ((c + d * M) / B)
theorem mul_D {B M : Nat} (hB : 2 ≤ B) (hM : 1 ≤ M) : ∀ (n c : Nat), mul B M (D B n) c = D B (n * M + c) := by
  intro n
  induction n using Nat.strongRecOn with
  | _ n ih =>
    intro c
    by_cases h0 : n = 0
    · subst h0; simp [D_zero, mul]
    · have hpos : 0 < n * M + c := by have := Nat.mul_pos (show 0 < n by omega) hM; omega
      have hn : n = B * (n / B) + n % B := (Nat.div_add_mod n B).symm
      have e1 : n * M + c = B * (n / B * M) + (c + n % B * M) := by
        conv => lhs; rw [hn]
        rw [Nat.add_mul, Nat.mul_assoc]
        omega
      rw [D_pos hB (by omega), mul, ih (n / B) (Nat.div_lt_self (by omega) hB), D_pos hB hpos, e1, Nat.mul_add_mod, Nat.mul_add_div (by omega)]

/-- A big-endian number. -/
def val (B : Nat) (l : List Nat) : Nat := l.foldl (fun a b => a * B + b) 0
theorem foldl_val (B : Nat) : ∀ (l : List Nat) (a : Nat), l.foldl (fun a b => a * B + b) a = a * B ^ l.length + val B l
  | [], a => by simp [val]
  | x :: l, a => by
    unfold val
    rw [List.foldl_cons, foldl_val B l, List.foldl_cons, foldl_val B l (0 * B + x), List.length_cons, Nat.pow_succ]
    simp [Nat.add_mul, Nat.mul_assoc, Nat.mul_comm B]
    omega
theorem val_snoc (B : Nat) (l : List Nat) (x : Nat) : val B (l ++ [x]) = val B l * B + x := by simp [val]
theorem val_cons (B : Nat) (x : Nat) (l : List Nat) : val B (x :: l) = x * B ^ l.length + val B l := by
  conv => lhs; rw [val, List.foldl_cons, foldl_val]
  simp
theorem val_append (B : Nat) (a b : List Nat) : val B (a ++ b) = val B a * B ^ b.length + val B b := by
  conv => lhs; rw [val, List.foldl_append, foldl_val]
  rfl
theorem val_zeros (B k : Nat) (l : List Nat) : val B (List.replicate k 0 ++ l) = val B l := by
  induction k with
  | zero => simp
  | succ k ih => rw [List.replicate_succ, List.cons_append, val_cons, ih]; simp
theorem val_lt {B : Nat} (hB : 1 ≤ B) : ∀ (l : List Nat), (∀ d ∈ l, d < B) → val B l < B ^ l.length
  | [], _ => by simp [val]
  | x :: l, h => by
    have h1 := val_lt hB l fun d hd => h d (List.mem_cons_of_mem _ hd)
    have h2 := h x (List.mem_cons_self ..)
    rw [val_cons, List.length_cons, Nat.pow_succ]
    have : (x + 1) * B ^ l.length ≤ B * B ^ l.length := Nat.mul_le_mul_right _ h2
    rw [Nat.add_mul] at this
    rw [Nat.mul_comm (B ^ l.length) B]
    omega
/-- Digits read back. -/
theorem val_D {B : Nat} (hB : 2 ≤ B) : ∀ (n : Nat), val B (D B n).reverse = n := by
  intro n
  induction n using Nat.strongRecOn with
  | _ n ih =>
    by_cases h0 : n = 0
    · subst h0; simp [D_zero, val]
    · rw [D_pos hB (by omega), List.reverse_cons, val_snoc, ih (n / B) (Nat.div_lt_self (by omega) hB), Nat.mul_comm]
      exact Nat.div_add_mod n B
/-- A list without a leading zero is the digits of its number. -/
theorem D_val {B : Nat} (hB : 2 ≤ B) : ∀ (l : List Nat), (∀ d ∈ l, d < B) → (∀ x, l.getLast? = some x → x ≠ 0) → D B (val B l.reverse) = l
  | [], _, _ => by simp [val, D_zero]
  | x :: l, h, hl => by
    have hx := h x (List.mem_cons_self ..)
    have ih : D B (val B l.reverse) = l := by
      refine D_val hB l (fun d hd => h d (List.mem_cons_of_mem _ hd)) fun y hy => ?_
      cases l with
      | nil => simp at hy
      | cons z l => exact hl y (by rw [List.getLast?_cons_cons]; exact hy)
    rw [List.reverse_cons, val_snoc]
    have hpos : 0 < val B l.reverse * B + x := by
      rcases Nat.eq_zero_or_pos (val B l.reverse) with h0 | h0
      · rw [h0, D_zero] at ih
        subst ih
        have := hl x (by simp)
        omega
      · have := Nat.mul_pos h0 (show 0 < B by omega)
        omega
    rw [D_pos hB hpos, Nat.mul_comm, Nat.mul_add_mod, Nat.mod_eq_of_lt hx, Nat.mul_add_div (by omega), Nat.div_eq_of_lt hx, Nat.add_zero, ih]
theorem D_getLast {B : Nat} (hB : 2 ≤ B) : ∀ (n x : Nat), (D B n).getLast? = some x → x ≠ 0 := by
  intro n
  induction n using Nat.strongRecOn with
  | _ n ih =>
    intro x hx
    by_cases h0 : n = 0
    · subst h0; simp [D_zero] at hx
    · rw [D_pos hB (by omega)] at hx
      by_cases h1 : n / B = 0
      · rw [h1, D_zero] at hx
        simp at hx
        subst hx
        have : n < B := by
          rcases Nat.lt_or_ge n B with h | h
          · exact h
          · have := Nat.div_pos h (by omega); omega
        rw [Nat.mod_eq_of_lt this]
        exact h0
      · have hp : D B (n / B) = (n / B) % B :: D B (n / B / B) := D_pos hB (Nat.pos_of_ne_zero h1)
        rw [hp, List.getLast?_cons_cons, ← hp] at hx
        exact ih (n / B) (Nat.div_lt_self (by omega) hB) x hx
/-- How many digits: 58 squared is more than 256. -/
theorem D_length {n m : Nat} (h : n < 256 ^ m) : (D 58 n).length ≤ 2 * m := by
  have key : ∀ (k n : Nat), n < 58 ^ k → (D 58 n).length ≤ k := by
    intro k
    induction k with
    | zero => intro n h; obtain rfl : n = 0 := by simpa using h
              simp [D_zero]
    | succ k ih =>
      intro n h
      by_cases h0 : n = 0
      · subst h0; simp [D_zero]
      · rw [D_pos (by omega) (by omega), List.length_cons]
        have := ih (n / 58) (by rw [Nat.pow_succ] at h; omega)
        omega
  refine key (2 * m) n (Nat.lt_of_lt_of_le h ?_)
  rw [Nat.pow_mul]
  exact Nat.pow_le_pow_left (by decide) m

/-- Schoolbook division by 58: the quotient's digits, the rest. -/
def divq : Nat → List Nat → List Nat
  | _, [] => []
  | r, b :: l => (r * 256 + b) / 58 :: divq ((r * 256 + b) % 58) l
def divr : Nat → List Nat → Nat
  | r, [] => r
  | r, b :: l => divr ((r * 256 + b) % 58) l
theorem divq_length : ∀ (l : List Nat) (r : Nat), (divq r l).length = l.length
  | [], _ => rfl
  | b :: l, r => by simp [divq, divq_length l]
theorem divr_lt : ∀ (l : List Nat) (r : Nat), r < 58 → divr r l < 58
  | [], _, h => h
  | b :: l, r, h => divr_lt l _ (Nat.mod_lt _ (by omega))
theorem divq_lt : ∀ (l : List Nat) (r : Nat), r < 58 → (∀ d ∈ l, d < 256) → ∀ d ∈ divq r l, d < 256
  | [], _, _, _, d, hd => by simp [divq] at hd
  | b :: l, r, hr, h, d, hd => by
    have hb := h b (List.mem_cons_self ..)
    rcases List.mem_cons.1 hd with rfl | hd
    · omega
    · exact divq_lt l _ (Nat.mod_lt _ (by omega)) (fun x hx => h x (List.mem_cons_of_mem _ hx)) d hd
theorem div_val : ∀ (l : List Nat) (r : Nat), val 256 (divq r l) * 58 + divr r l = r * 256 ^ l.length + val 256 l
  | [], r => by simp [divq, divr, val]
  | b :: l, r => by
    rw [divq, divr, val_cons, val_cons, divq_length, Nat.add_mul, Nat.add_assoc, div_val l, ← Nat.add_assoc, List.length_cons, Nat.pow_succ]
    have e : (r * 256 + b) / 58 * 58 + (r * 256 + b) % 58 = r * 256 + b := by omega
    have : (r * 256 + b) / 58 * 256 ^ l.length * 58 + (r * 256 + b) % 58 * 256 ^ l.length = (r * 256 + b) * 256 ^ l.length := by
      rw [← e, Nat.mul_right_comm, ← Nat.add_mul]
      congr 1
      omega
    rw [this, Nat.add_mul, Nat.mul_assoc, Nat.mul_comm 256]
    omega
/-- One pass of the division. -/
theorem div_pass (l : List Nat) : val 256 (divq 0 l) = val 256 l / 58 ∧ divr 0 l = val 256 l % 58 := by
  have h1 := div_val l 0
  have h2 := divr_lt l 0 (by omega)
  rw [Nat.zero_mul, Nat.zero_add] at h1
  omega
end Go.Proofs.Qxb6629335a
