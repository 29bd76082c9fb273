import Derived.Test.Qxb6629335aDec
import Derived.Laws.AppendOwnNone
import Derived.BigQuiet
namespace Go.Proofs.Qxb6629335a
open Go.RowKit
set_option linter.unusedVariables false
set_option linter.unusedSimpArgs false

theorem lz_le : ∀ (xs : List Nat), lz xs ≤ xs.length
  | [] => Nat.le_refl _
  | x :: l => by
    have := lz_le l
    unfold lz
    split <;> simp <;> omega
theorem lz_zeros : ∀ (xs : List Nat), xs = List.replicate (lz xs) 0 ++ xs.drop (lz xs)
  | [] => rfl
  | x :: l => by
    unfold lz
    split
    · rename_i h
      subst h
      rw [List.replicate_succ, List.cons_append, List.drop_succ_cons, ← lz_zeros l]
    · simp
theorem lz_top : ∀ (xs : List Nat) (y : Nat), (xs.drop (lz xs))[0]? = some y → y ≠ 0
  | [], y, h => by simp at h
  | x :: l, y, h => by
    unfold lz at h
    split at h
    · rw [List.drop_succ_cons] at h
      exact lz_top l y h
    · rename_i hx
      simp at h
      omega
/-- Reading the encoding's digits back. -/
theorem dec_enc (xs : List Nat) (hlt : ∀ x ∈ xs, x < 256) : List.replicate (lz xs) 0 ++ (D 256 (val 58 (D 58 (val 256 (xs.drop (lz xs)))).reverse)).reverse = xs := by
  rw [val_D (by omega)]
  have h := D_val (B := 256) (by omega) (xs.drop (lz xs)).reverse (fun d hd => hlt d (List.mem_of_mem_drop (List.mem_reverse.1 hd))) (fun x hx => by
    rw [List.getLast?_reverse, List.head?_eq_getElem?] at hx
    exact lz_top xs x hx)
  rw [List.reverse_reverse] at h
  rw [h, List.reverse_reverse, ← lz_zeros]
theorem encL_cons0 (xs : List Nat) : encL (0 :: xs) = 49 :: encL xs := by
  simp [encL, lz, List.replicate_succ]
theorem encS_cons0 (xs : List Nat) : encS (0 :: xs) = (⟨#[49]⟩ : ByteArray) ++ encS xs := by
  rw [encS, encL_cons0, encS]
  apply ByteArray.ext
  rw [ByteArray.data_append]
  simp [strOfNums]
theorem alpha_lt {d : Nat} (h : d < 58) : alpha d < 256 := by
  have key : ∀ d : Fin 58, alpha d.val < 256 := by decide +kernel
  exact key ⟨d, h⟩
theorem encS_size (xs : List Nat) : (encS xs).size = lz xs + (D 58 (val 256 (xs.drop (lz xs)))).length := by
  rw [encS, strOfNums_size, List.length_map, encL_length]
theorem encS_le (xs : List Nat) (hlt : ∀ x ∈ xs, x < 256) : (encS xs).size ≤ 2 * xs.length := by
  have h1 : val 256 (xs.drop (lz xs)) < 256 ^ (xs.drop (lz xs)).length := val_lt (by omega) _ fun d hd => hlt d (List.mem_of_mem_drop hd)
  have h2 := D_length h1
  have h3 := lz_le xs
  rw [List.length_drop] at h2
  rw [encS_size]
  omega
theorem encS_at (xs : List Nat) (k : Nat) (h : k < (encS xs).size) (x : Nat) (hx : (encL xs)[k]? = some x) (h256 : x < 256) : (encS xs)[k].toNat = x := by
  have e : (encS xs).data.toList = ((encL xs).map fun (n : Nat) => (n : Int)).map fun n => UInt8.ofNat n.toNat := strOfNums_data _
  have e2 : (encS xs).data.toList[k]? = some (UInt8.ofNat x) := by
    rw [e, List.getElem?_map, List.getElem?_map, hx]
    rfl
  have e3 : (encS xs)[k] = UInt8.ofNat x := by
    have h1 := List.getElem?_eq_some_iff.1 e2
    obtain ⟨h2, h3⟩ := h1
    rw [← h3]
    rfl
  rw [e3]
  simp
  omega

theorem app_src {ops : Array Oper} {rest : List Oper} {o : Oper} {a : Act} {w : World} {Q : Exit → Act → World → Prop} (hgd : o.guard = none) (s x : Operand)
    (ho : o.op = .call { callee := .builtin .append, args := #[s, x], argTypes := #[22, 22] }) (xs : List Nat) (ao : Option Addr) (c : Nat) (hok : SlOk ao xs.length c) (hbs : BsAt w ao xs) (hlen : xs.length ≤ 100000)
    (hs : a.eval s = .slice (some ⟨w.heap.size, 0, none⟩) 1 1) (hx : a.eval x = .slice ao xs.length c)
    (h : ∀ g cap w', BsAt w' (some ⟨g, 0, none⟩) (0 :: xs) → SlOk (some ⟨g, 0, none⟩) (xs.length + 1) cap → Below w.heap.size w w' → wpList Try.prog ops Q rest (a.put o.dst (.slice (some ⟨g, 0, none⟩) (xs.length + 1) cap)) w') :
    wpList Try.prog ops Q (o :: rest) a (w.alloc (.cells #[.int .u8 0] 5)) := by
  obtain ⟨i0, hi, hz0, hz1, hz2⟩ := info_parts info5
  have hown : (w.alloc (.cells #[.int .u8 0] 5)).ownsRow w.heap.size 5 1 (.slice (some ⟨w.heap.size, 0, none⟩) 1 1) 1 [vI 0] :=
    ⟨rfl, .inr ⟨w.heap.size, 1, #[.int .u8 0], rfl, Nat.le_refl _, heap_alloc_new w _, Nat.le_refl _, by unfold maxLen; omega, rfl, rfl⟩⟩
  obtain ⟨o1, o2, o3⟩ := hok
  cases ao with
  | none =>
    obtain ⟨hl0, rfl⟩ := o3 rfl
    obtain rfl := List.eq_nil_of_length_eq_zero hl0
    refine wpList_append_own_none hgd s x 22 ho w.heap.size 5 i0 1 Try.underlying22 hi _ 1 [vI 0] hs hown hx ?_
    exact h _ _ _ hown.bsAt hown.slOk (ba w _)
  | some ad =>
    refine wpList_append_own_at _ hgd s x 22 ho w.heap.size 5 i0 _ 1 1 Try.underlying22 hi hz0 hz1 hz2 rfl (by omega) _ 1 [vI 0] hs hown ad xs.length c (xs.map vI) hx (by simp) ?_ (by intro u hu; obtain ⟨y, _, rfl⟩ := List.mem_map.1 hu; rfl) (by unfold maxLen; omega) (by omega) (by simp) ?_
    · intro j u hu
      rw [List.getElem?_map] at hu
      obtain ⟨y, hy, rfl⟩ := Option.map_eq_some_iff.1 hu
      obtain ⟨b, o, e, hc⟩ := hbs j y hy
      cases e
      rw [Addr.add_lit]
      exact cell_later (ba w _) hc
    · intro v' w' hown2 hgrow _ hat
      obtain ⟨g, cap, rfl, _, _⟩ := hown2.form (by omega)
      have e1 : [vI 0] ++ xs.map vI = (0 :: xs).map vI := rfl
      rw [e1, show 1 + xs.length = (0 :: xs).length by simp; omega] at hown2
      have h1 := hown2.bsAt
      have h2 := hown2.slOk
      rw [show 1 + xs.length = xs.length + 1 by omega]
      refine h g cap w' h1 h2 ((ba w _).grown hgrow (by simp) (fun k hk => ?_))
      simp [Value.ownBlock] at hk
      omega

theorem zzBytes8_any (ao : Option Addr) (n c : Nat) (hn : n ≤ maxLen) (w : World) : Calls Try.prog 8 #[.slice ao n c] w fun e w' => (∃ b : Bool, e = .returned (.bool b)) ∧ w' = w := by
  unfold maxLen at hn
  by_cases h : n ≤ 1048576
  · go_enter Try.func8, Try.ntmps8
    go_wp2_with fail
    go_ret
    exact ⟨⟨_, rfl⟩, rfl⟩
  · go_enter Try.func8, Try.ntmps8
    go_wp2_with fail
    go_ret
    exact ⟨⟨_, rfl⟩, rfl⟩
/-- zzDecode at an encoding. -/
theorem decode_enc (xs : List Nat) (hlt : ∀ x ∈ xs, x < 256) (hlen : xs.length ≤ 4097) (w : World) : Calls Try.prog 9 #[.string (encS xs)] w fun e w' => ∃ (g cap : Nat), e = .returned (.tuple #[.slice (some ⟨g, 0, none⟩) xs.length cap, .bool true]) ∧ BsAt w' (some ⟨g, 0, none⟩) xs ∧ xs.length ≤ cap ∧ Below w.heap.size w w' := by
  have hle := encS_le xs hlt
  refine (decode_any (encS xs) (lz xs) (D 58 (val 256 (xs.drop (lz xs)))).reverse ?_ (by omega) ?_ ?_ ?_ ?_ w).mono ?_
  · rw [encS_size, List.length_reverse]
  · intro k h hk
    refine encS_at xs k h 49 ?_ (by omega)
    rw [encL, List.getElem?_append_left (by simpa using hk)]
    simp [hk]
  · intro k d h hk hd
    have h58 : d < 58 := D_lt (by omega) _ d (List.mem_reverse.1 (List.mem_of_getElem? hd))
    refine encS_at xs k h (alpha d) ?_ (alpha_lt h58)
    rw [encL, List.getElem?_append_right (by simpa using hk), List.length_replicate, List.getElem?_map, hd]
    rfl
  · exact fun d hd => D_lt (by omega) _ d (List.mem_reverse.1 hd)
  · intro d hd
    rw [← List.head?_eq_getElem?, List.head?_reverse] at hd
    exact D_getLast (by omega) _ d hd
  · rintro e w' ⟨g, cap, ol, rfl, hol, hb, hok, hg, hbl⟩
    rw [dec_enc xs hlt] at hol
    subst hol
    exact ⟨g, cap, rfl, hb, hok.1, hbl⟩
end Go.Proofs.Qxb6629335a
