import Derived.Test.Qxb6629277aLaws
namespace Go.Proofs.Qxb6629277a
open Go.RowKit
set_option linter.unusedVariables false
set_option linter.unusedSimpArgs false

set_option maxHeartbeats 1000000 in
theorem spell_any (v x : Int) (h0 : 0 ≤ v) (h1 : v ≤ 255) (hx : sp v = x) (w : World) : Calls Try.prog 7 #[.int .u8 v] w fun e w' => e = .returned (.int .u8 x) ∧ w' = w := by
  have HX := hid hx
  clear hx
  by_cases h : v < 10
  · go_enter Try.func7, Try.ntmps7
    go_wp2_with fail
    go_ret
    have : x = 48 + v := by rw [← HX.out, sp, if_pos h]
    exact ⟨by rw [this]; rfl, rfl⟩
  · by_cases h5 : v = 15
    · have e : (v == 15) = true := by rw [beq_iff_eq]; exact h5
      have H5 := hid h5
      clear h5
      go_enter Try.func7, Try.ntmps7
      go_wp2_with fail
      go_ret
      have : x = 102 := by rw [← HX.out, sp, if_neg (by omega), if_pos H5.out]
      exact ⟨by rw [this]; rfl, rfl⟩
    · have e : (v == 15) = false := by rw [beq_eq_false_iff_ne]; exact h5
      go_enter Try.func7, Try.ntmps7
      go_wp2_with fail
      go_ret
      have : x = 0 := by rw [← HX.out, sp, if_neg (by omega), if_neg h5]
      exact ⟨by rw [this]; rfl, rfl⟩

set_option maxHeartbeats 1000000 in
theorem zzb5_any (s : ByteArray) (hs : s.size ≤ 9223372036854775807) (w : World) : Calls Try.prog 5 #[.string s] w fun e w' => e = .returned (.bool (decide (s.size ≤ 1048576))) ∧ w' = w := by
  by_cases h : s.size ≤ 1048576
  · go_enter Try.func5, Try.ntmps5
    go_wp2_with fail
    go_ret
    exact ⟨by simp [h], rfl⟩
  · go_enter Try.func5, Try.ntmps5
    go_wp2_with fail
    go_ret
    exact ⟨by simp [h], rfl⟩

set_option maxRecDepth 10000 in
set_option maxHeartbeats 2000000 in
theorem read_any (s : ByteArray) (hs : s.size ≤ maxLen) (w : World) : Calls Try.prog 3 #[.string s] w fun e w' => e = .returned (.bool true) ∧ Below w.heap.size w w' := by
  unfold maxLen at hs
  by_cases h20 : s.size ≤ 1048576
  · have hdec : decide (s.size ≤ 1048576) = true := by simp [h20]
    go_enter Try.func3, Try.ntmps3
    go_wp2_with fail
    refine (zzb5_any s (by omega) w).mono ?_
    rintro e w' ⟨rfl, rfl⟩
    rw [hdec]
    go_wp2_with fail
    go_loop [3] (fun i => ∃ k : Nat, k ≤ s.size ∧ i = .int .i64 k ∧ ∀ i, i < k → vld (chr s i)) (fun i => s.size - (intOf i).toNat)
    case atStart => exact ⟨0, Nat.zero_le _, rfl, fun i hi => absurd hi (Nat.not_lt_zero _)⟩
    case round =>
      obtain ⟨k, hk, rfl, hv⟩ := hrel
      have HV := hid hv
      clear hv
      by_cases hlt : k < s.size
      · have HCE := hid (chr_eq s k hlt)
        by_cases hval : vld s[k]
        · have HVK := hid hval
          have HST := hid (show ∀ i, i < k + 1 → vld (chr s i) from fun i hi => by
            rcases Nat.lt_succ_iff_lt_or_eq.1 hi with h | rfl
            · exact HV.out i h
            · rw [← HCE.out]; exact hval)
          rcases hval with ⟨ha, hb⟩ | hc
          · go_wp2_with fail
            go_round
            case rel => exact ⟨k + 1, by omega, by go_num, HST.out⟩
            case measure => simp [intOf]; omega
          · have hc1 : ((s[k].toNat : Int) == 102) = true := by rw [beq_iff_eq]; exact hc
            have hc2 : 57 < (s[k].toNat : Int) := by omega
            clear hc
            go_wp2_with fail
            go_round
            case rel => exact ⟨k + 1, by omega, by go_num, HST.out⟩
            case measure => simp [intOf]; omega
        · have hc1 : ((s[k].toNat : Int) == 102) = false := by rw [beq_eq_false_iff_ne]; exact fun h => hval (Or.inr h)
          by_cases ha : (48 : Int) ≤ s[k].toNat
          · have hb : ¬ (s[k].toNat : Int) ≤ 57 := fun h => hval (Or.inl ⟨ha, h⟩)
            clear hval
            go_wp2_with fail
            go_ret
            exact ⟨rfl, Below.refl _ _⟩
          · clear hval
            go_wp2_with fail
            go_ret
            exact ⟨rfl, Below.refl _ _⟩
      · have HA := hid (show ∀ i, i < s.size → vld (chr s i) from fun i hi => HV.out i (by omega))
        go_wp2_with fail
        refine (pack_any s (by omega) _).mono ?_
        rintro e w2 ⟨rfl, hoct⟩
        have HO := hid hoct
        have hbel := hid hoct.2
        clear hoct
        go_wp2_with fail
        go_loop [7] (fun i => ∃ j : Nat, j ≤ (s.size + 1) / 2 ∧ i = .int .i64 j) (fun i => (s.size + 1) / 2 - (intOf i).toNat)
        case atStart => exact ⟨0, Nat.zero_le _, rfl⟩
        case round =>
          obtain ⟨j, hj, rfl⟩ := hrel
          by_cases hjl : j < (s.size + 1) / 2
          · have hcell := HO.out.cell hjl
            have hpin := pk_in s j
            obtain ⟨r1, r2, r3⟩ := pk_read (j := j) (by omega) HA.out
            obtain ⟨z, HZ⟩ : ∃ z, Hid (pk s j = z) := ⟨_, rfl⟩
            rw [HZ.out] at hcell hpin r1 r2 r3
            obtain ⟨hz0, hz1⟩ := hpin
            rw [← chr_eq s (2 * j) (by omega)] at r1
            have HN1 := hid (fun wx => spell_any (z % 16) _ (by omega) (by omega) r1 wx)
            clear r1
            by_cases h1 : 2 * j + 1 < s.size
            · have r2' := r2 h1
              rw [← chr_eq s (2 * j + 1) h1] at r2'
              have HN2 := hid (fun wx => spell_any (z / 16) _ (by omega) (by omega) r2' wx)
              clear r2 r2' r3
              have hx1 : 2 * j < s.size := by omega
              go_wp2_with fail
              refine (HN1.out _).mono ?_
              rintro e w3 ⟨rfl, rfl⟩
              go_wp2_with fail
              refine (HN2.out _).mono ?_
              rintro e w3 ⟨rfl, rfl⟩
              go_wp2_with fail
              go_round
              case rel => exact ⟨j + 1, by omega, by go_num⟩
              case measure => simp [intOf]; omega
            · have r3' := r3 h1
              have HN2 := hid (fun wx => spell_any (z / 16) _ (by omega) (by omega) r3' wx)
              clear r2 r3' r3
              have hx1 : 2 * j < s.size := by omega
              go_wp2_with fail
              refine (HN1.out _).mono ?_
              rintro e w3 ⟨rfl, rfl⟩
              go_wp2_with fail
              refine (HN2.out _).mono ?_
              rintro e w3 ⟨rfl, rfl⟩
              go_wp2_with fail
              go_round
              case rel => exact ⟨j + 1, by omega, by go_num⟩
              case measure => simp [intOf]; omega
          · go_wp2_with fail
            go_ret
            exact ⟨rfl, hbel.out⟩
  · have hdec : decide (s.size ≤ 1048576) = false := by simp [h20]
    go_enter Try.func3, Try.ntmps3
    go_wp2_with fail
    refine (zzb5_any s (by omega) w).mono ?_
    rintro e w' ⟨rfl, rfl⟩
    rw [hdec]
    go_wp2_with fail
    go_ret
    exact ⟨rfl, Below.refl _ _⟩
end Go.Proofs.Qxb6629277a
