import Derived.Test.Qxb6630591aDoorCl
namespace Go.Proofs.Qxb6630591aDoor
open Go.RowKit
set_option linter.unusedVariables false
set_option linter.unusedSimpArgs false

theorem chr_of {s : ByteArray} {l : List UInt8} (hs : s = S l) (k : Nat) (h : k < s.size) : ∃ b, l[k]? = some b ∧ s[k] = b := by
  subst hs
  have hk : k < l.length := by rw [S_size] at h; exact h
  exact ⟨l[k], List.getElem?_eq_getElem hk, rfl⟩
theorem S_take (l : List UInt8) (k : Nat) : (S l).extract 0 k = S (l.take k) := by
  apply ByteArray.ext
  rw [ByteArray.data_extract]
  apply Array.ext'
  simp [S]
theorem S_drop {n : Nat} (l : List UInt8) (k : Nat) (h : l.length = n) : (S l).extract k n = S (l.drop k) := by
  subst h
  apply ByteArray.ext
  rw [ByteArray.data_extract]
  apply Array.ext'
  simp [S]
  exact List.take_of_length_le (by simp)
theorem S_append (a b : List UInt8) : S a ++ S b = S (a ++ b) := by
  apply ByteArray.ext
  rw [ByteArray.data_append]
  simp [S]
theorem ne44 {c : UInt8} (h : c ≠ 44) : ((c.toNat : Int) == 44) = false := by
  rw [beq_eq_false_iff_ne]
  intro e
  exact h (UInt8.toNat_inj.1 (by have : (44 : UInt8).toNat = 44 := rfl; omega))
theorem ne45 {c : UInt8} (h : c ≠ 45) : ((c.toNat : Int) == 45) = false := by
  rw [beq_eq_false_iff_ne]
  intro e
  exact h (UInt8.toNat_inj.1 (by have : (45 : UInt8).toNat = 45 := rfl; omega))
theorem mem_back {P L : List UInt8} {k : Nat} {b : UInt8} (hk : P.length ≤ k) (h : (P ++ L)[k]? = some b) : b ∈ L := by
  rw [List.getElem?_append_right hk] at h
  exact List.mem_of_getElem? h
theorem ret_str {a b : ByteArray} (h : a = b) : Ending.returned (.string a) = .returned (.string b) := by rw [h]

set_option maxHeartbeats 2000000 in
theorem trim_any (P T E : List UInt8) (hP : P = [] ∨ ∃ P', P = P' ++ [44]) (hT : 0 < T.length) (hT44 : ∀ b ∈ T, b ≠ 44) (hT45 : ∀ (j : Nat) (b : UInt8), 0 < j → T[j]? = some b → b ≠ 45)
    (hE : E = [] ∨ ∃ e, E = 45 :: e) (hE44 : ∀ b ∈ E, b ≠ 44) (hlen : (P ++ T ++ E).length ≤ 100000000) (w : World) :
    Calls Tryd.prog 10 #[.string (S (P ++ T ++ E))] w fun e w' => e = .returned (.string (S (P ++ T))) ∧ w' = w := by
  obtain ⟨s, HS⟩ : ∃ s, Hid (s = S (P ++ T ++ E)) := ⟨_, hid rfl⟩
  rw [← HS.out]
  have HSZ := hid (show s.size = P.length + T.length + E.length by rw [HS.out, S_size]; simp; omega)
  have hsz1 : s.size ≤ P.length + T.length + E.length := Nat.le_of_eq HSZ.out
  have hsz2 : P.length + T.length + E.length ≤ s.size := Nat.le_of_eq HSZ.out.symm
  have hsl : s.size ≤ 100000000 := by rw [HS.out, S_size]; exact hlen
  have H44 := hid (show ∀ k (h : k < s.size), P.length ≤ k → ((s[k].toNat : Int) == 44) = false from fun k h hk => by
    obtain ⟨b, hb, e⟩ := chr_of HS.out k h
    rw [e]
    rw [List.append_assoc] at hb
    rcases List.mem_append.1 (mem_back hk hb) with h | h
    · exact ne44 (hT44 b h)
    · exact ne44 (hE44 b h))
  have HP44 := hid (show ∀ k (h : k < s.size), P.length = k + 1 → ((s[k].toNat : Int) == 44) = true from fun k h hk => by
    obtain ⟨b, hb, e⟩ := chr_of HS.out k h
    rw [e]
    rcases hP with hP | ⟨P', hP⟩
    · rw [hP] at hk; simp at hk
    · have hl : P'.length = k := by rw [hP] at hk; simpa using hk
      rw [hP, List.append_assoc, List.append_assoc, List.getElem?_append_right (by omega), hl] at hb
      simp at hb
      subst hb
      rfl)
  have HT45 := hid (show ∀ k (h : k < s.size), P.length + 1 ≤ k → k < P.length + T.length → ((s[k].toNat : Int) == 45) = false from fun k h hk hk2 => by
    obtain ⟨b, hb, e⟩ := chr_of HS.out k h
    rw [e]
    rw [List.append_assoc, List.getElem?_append_right (by omega), List.getElem?_append_left (by omega)] at hb
    exact ne45 (hT45 _ b (by omega) hb))
  have HE := hid (show E = [] ∨ (0 < E.length ∧ ∀ (h : P.length + T.length < s.size), ((s[P.length + T.length].toNat : Int) == 45) = true) by
    rcases hE with hE | ⟨e, hE⟩
    · exact Or.inl hE
    · refine Or.inr ⟨by rw [hE]; simp, fun h => ?_⟩
      obtain ⟨b, hb, e⟩ := chr_of HS.out _ h
      rw [e]
      rw [hE, List.getElem?_append_right (by simp), show P.length + T.length - (P ++ T).length = 0 by simp] at hb
      simp at hb
      subst hb
      rfl)
  clear hP hT44 hT45 hE hE44 hlen
  go_enter Tryd.func10, Tryd.ntmps10
  go_wp2_with fail
  go_loop [4, 3] (fun i st => ∃ k : Nat, k ≤ s.size ∧ P.length ≤ k ∧ i = .int .i64 ((k : Int) - 1) ∧ st = .int .i64 0) (fun i _ => (intOf i + 1).toNat)
  case atStart => exact ⟨s.size, Nat.le_refl _, by omega, rfl, rfl⟩
  case round =>
    obtain ⟨k, hk, hPk, rfl, rfl⟩ := hrel
    cases k with
    | zero =>
      have hP0 : P.length ≤ 0 := hPk
      go_wp2_with fail
      go_loop [5] (fun i => ∃ k : Nat, P.length + 1 ≤ k ∧ k ≤ P.length + T.length ∧ i = .int .i64 k) (fun i => s.size - (intOf i).toNat)
      case atStart => exact ⟨P.length + 1, Nat.le_refl _, by omega, congrArg (Value.int .i64) (by omega)⟩
      case round =>
        obtain ⟨k, hk1, hk2, rfl⟩ := hrel
        by_cases hkt : k < P.length + T.length
        · have hks : k < s.size := by omega
          have hch := HT45.out k hks (by omega) hkt
          go_wp2_with fail
          go_round
          case rel => exact ⟨k + 1, by omega, by omega, by go_num⟩
          case measure => simp [intOf]; omega
        · obtain rfl : k = P.length + T.length := by omega
          rcases HE.out with hE0 | ⟨hEl, hch⟩
          · have hks : s.size ≤ P.length + T.length := by rw [HSZ.out, hE0]; simp
            have HR := hid (show s = S (P ++ T) by rw [HS.out, hE0, List.append_nil])
            clear hE0
            go_wp2_with fail
            go_ret
            exact ⟨ret_str HR.out, rfl⟩
          · have hks : P.length + T.length < s.size := by omega
            have hch := hch hks
            have HR := hid (show s.extract 0 (P.length + T.length) = S (P ++ T) by rw [HS.out, S_take, ← List.length_append, List.take_left])
            go_wp2_with fail
            go_ret
            exact ⟨ret_str (by first | exact HR.out | (rw [← HR.out]; congr 1; omega)), rfl⟩
    | succ m =>
      have hms : m < s.size := by omega
      by_cases hPm : P.length ≤ m
      · have hch := H44.out m hms hPm
        go_wp2_with fail
        go_round
        case rel => exact ⟨m, by omega, hPm, by go_num, rfl⟩
        case measure => simp [intOf]
      · have hPm1 : P.length ≤ m + 1 := hPk
        have hch0 := HP44.out m hms (by omega)
        go_wp2_with fail
        go_loop [5] (fun i => ∃ k : Nat, P.length + 1 ≤ k ∧ k ≤ P.length + T.length ∧ i = .int .i64 k) (fun i => s.size - (intOf i).toNat)
        case atStart => exact ⟨P.length + 1, Nat.le_refl _, by omega, congrArg (Value.int .i64) (by omega)⟩
        case round =>
          obtain ⟨k, hk1, hk2, rfl⟩ := hrel
          by_cases hkt : k < P.length + T.length
          · have hks : k < s.size := by omega
            have hch := HT45.out k hks (by omega) hkt
            go_wp2_with fail
            go_round
            case rel => exact ⟨k + 1, by omega, by omega, by go_num⟩
            case measure => simp [intOf]; omega
          · obtain rfl : k = P.length + T.length := by omega
            rcases HE.out with hE0 | ⟨hEl, hch⟩
            · have hks : s.size ≤ P.length + T.length := by rw [HSZ.out, hE0]; simp
              have HR := hid (show s = S (P ++ T) by rw [HS.out, hE0, List.append_nil])
              clear hE0
              go_wp2_with fail
              go_ret
              exact ⟨ret_str HR.out, rfl⟩
            · have hks : P.length + T.length < s.size := by omega
              have hch := hch hks
              have HR := hid (show s.extract 0 (P.length + T.length) = S (P ++ T) by rw [HS.out, S_take, ← List.length_append, List.take_left])
              go_wp2_with fail
              go_ret
              exact ⟨ret_str (by first | exact HR.out | (rw [← HR.out]; congr 1; omega)), rfl⟩

set_option maxHeartbeats 2000000 in
theorem drop_any (T E U R : List UInt8) (hT : 0 < T.length) (hT44 : ∀ b ∈ T, b ≠ 44) (hT45 : ∀ (j : Nat) (b : UInt8), 0 < j → T[j]? = some b → b ≠ 45)
    (hE : E = [] ∧ U = T ∨ E = 45 :: U) (hU44 : ∀ b ∈ U, b ≠ 44) (hR : R = [] ∨ ∃ R', R = 44 :: R') (hlen : (T ++ E ++ R).length ≤ 100000000) (w : World) :
    Calls Tryd.prog 11 #[.string (S (T ++ E ++ R))] w fun e w' => e = .returned (.string (S (U ++ R))) ∧ w' = w := by
  obtain ⟨s, HS⟩ : ∃ s, Hid (s = S (T ++ E ++ R)) := ⟨_, hid rfl⟩
  rw [← HS.out]
  have HSZ := hid (show s.size = T.length + E.length + R.length by rw [HS.out, S_size]; simp; omega)
  have hsz1 : s.size ≤ T.length + E.length + R.length := Nat.le_of_eq HSZ.out
  have hsz2 : T.length + E.length + R.length ≤ s.size := Nat.le_of_eq HSZ.out.symm
  have hsl : s.size ≤ 100000000 := by rw [HS.out, S_size]; exact hlen
  have hE44 : ∀ b ∈ E, b ≠ 44 := by
    rcases hE with ⟨hE, _⟩ | hE
    · rw [hE]; intro b hb; cases hb
    · rw [hE]
      intro b hb
      rcases List.mem_cons.1 hb with h | h
      · rw [h]; decide
      · exact hU44 b h
  have H44 := hid (show ∀ k (h : k < s.size), k < T.length + E.length → ((s[k].toNat : Int) == 44) = false from fun k h hk => by
    obtain ⟨b, hb, e⟩ := chr_of HS.out k h
    rw [e]
    rw [List.getElem?_append_left (by rw [List.length_append]; exact hk)] at hb
    rcases List.mem_append.1 (List.mem_of_getElem? hb) with h | h
    · exact ne44 (hT44 b h)
    · exact ne44 (hE44 b h))
  have HT45 := hid (show ∀ k (h : k < s.size), 1 ≤ k → k < T.length → ((s[k].toNat : Int) == 45) = false from fun k h hk hk2 => by
    obtain ⟨b, hb, e⟩ := chr_of HS.out k h
    rw [e]
    rw [List.append_assoc, List.getElem?_append_left (by omega)] at hb
    exact ne45 (hT45 _ b (by omega) hb))
  have HRR := hid (show R.length = 0 ∨ (0 < R.length ∧ ∀ (h : T.length + E.length < s.size), ((s[T.length + E.length].toNat : Int) == 44) = true) by
    rcases hR with hR | ⟨e, hR⟩
    · exact Or.inl (by rw [hR]; rfl)
    · refine Or.inr ⟨by rw [hR]; simp, fun h => ?_⟩
      obtain ⟨b, hb, e⟩ := chr_of HS.out _ h
      rw [e]
      rw [hR, List.getElem?_append_right (by simp), show T.length + E.length - (T ++ E).length = 0 by simp] at hb
      simp at hb
      subst hb
      rfl)
  have HE := hid (show (E.length = 0 ∧ Hid (s = S (U ++ R))) ∨ (0 < E.length ∧ (∀ (h : T.length < s.size), ((s[T.length].toNat : Int) == 45) = true) ∧ Hid (s.extract (T.length + 1) s.size = S (U ++ R))) by
    rcases hE with ⟨hE, hU⟩ | hE
    · exact Or.inl ⟨by rw [hE]; rfl, hid (by rw [HS.out, hE, hU, List.append_nil])⟩
    · refine Or.inr ⟨by rw [hE]; simp, fun h => ?_, hid ?_⟩
      · obtain ⟨b, hb, e⟩ := chr_of HS.out _ h
        rw [e]
        rw [hE, List.append_assoc, List.getElem?_append_right (by simp), show T.length - T.length = 0 by simp] at hb
        simp at hb
        subst hb
        rfl
      · rw [HS.out, S_drop _ _ (S_size _).symm, hE]
        congr 1
        rw [List.append_assoc, List.drop_append, List.drop_eq_nil_of_le (by omega)]
        simp)
  clear hT44 hT45 hE hE44 hU44 hR hlen
  go_enter Tryd.func11, Tryd.ntmps11
  go_wp2_with fail
  go_loop [4, 3] (fun i st => ∃ k : Nat, k ≤ T.length + E.length ∧ i = .int .i64 k ∧ st = .int .i64 s.size) (fun i _ => s.size - (intOf i).toNat)
  case atStart => exact ⟨0, Nat.zero_le _, rfl, rfl⟩
  case round =>
    obtain ⟨k, hk, rfl, rfl⟩ := hrel
    by_cases hkl : k < T.length + E.length
    · have hks : k < s.size := by omega
      have hch := H44.out k hks hkl
      go_wp2_with fail
      go_round
      case rel => exact ⟨k + 1, by omega, by go_num, rfl⟩
      case measure => simp [intOf]; omega
    · obtain rfl : k = T.length + E.length := by omega
      rcases HRR.out with hR0 | ⟨hRl, hch0⟩
      · have hs2 : s.size ≤ T.length + E.length := by omega
        clear hR0
        go_wp2_with fail
        go_loop [5] (fun i => ∃ k : Nat, 1 ≤ k ∧ k ≤ T.length ∧ i = .int .i64 k) (fun i => s.size - (intOf i).toNat)
        case atStart => exact ⟨1, Nat.le_refl _, by omega, rfl⟩
        case round =>
          obtain ⟨k, hk1, hk2, rfl⟩ := hrel
          by_cases hkt : k < T.length
          · have hks : k < s.size := by omega
            have hch := HT45.out k hks (by omega) hkt
            go_wp2_with fail
            go_round
            case rel => exact ⟨k + 1, by omega, by omega, by go_num⟩
            case measure => simp [intOf]; omega
          · obtain rfl : k = T.length := by omega
            rcases HE.out with ⟨hE0, HR⟩ | ⟨hEl, hch, HR⟩
            · have hE1 : E.length ≤ 0 := Nat.le_of_eq hE0
              clear hE0
              go_wp2_with fail
              go_ret
              exact ⟨ret_str HR.out, rfl⟩
            · have hks : T.length < s.size := by omega
              have hch := hch hks
              go_wp2_with fail
              go_ret
              exact ⟨ret_str (by first | exact HR.out | (rw [← HR.out]; congr 1; omega)), rfl⟩
      · have hks0 : T.length + E.length < s.size := by omega
        have hch0 := hch0 hks0
        go_wp2_with fail
        go_loop [5] (fun i => ∃ k : Nat, 1 ≤ k ∧ k ≤ T.length ∧ i = .int .i64 k) (fun i => s.size - (intOf i).toNat)
        case atStart => exact ⟨1, Nat.le_refl _, by omega, rfl⟩
        case round =>
          obtain ⟨k, hk1, hk2, rfl⟩ := hrel
          by_cases hkt : k < T.length
          · have hks : k < s.size := by omega
            have hch := HT45.out k hks (by omega) hkt
            go_wp2_with fail
            go_round
            case rel => exact ⟨k + 1, by omega, by omega, by go_num⟩
            case measure => simp [intOf]; omega
          · obtain rfl : k = T.length := by omega
            rcases HE.out with ⟨hE0, HR⟩ | ⟨hEl, hch, HR⟩
            · have hE1 : E.length ≤ 0 := Nat.le_of_eq hE0
              clear hE0
              go_wp2_with fail
              go_ret
              exact ⟨ret_str HR.out, rfl⟩
            · have hks : T.length < s.size := by omega
              have hch := hch hks
              go_wp2_with fail
              go_ret
              exact ⟨ret_str (by first | exact HR.out | (rw [← HR.out]; congr 1; omega)), rfl⟩
end Go.Proofs.Qxb6630591aDoor
