import Derived.Test.Qxb6630591aDoorTr
namespace Go.Proofs.Qxb6630591aDoor
open Go.RowKit
set_option linter.unusedVariables false
set_option linter.unusedSimpArgs false

theorem format_as (xs : List Int) (m : Nat) (hm : xs.length = m) (ao : Option Addr) (c : Nat) (w : World) (hok : SlOk ao m c) (hat : IsAt w ao xs) (hin : ∀ x ∈ xs, InI x) (hlen : m ≤ 131072) (htab : Tab w) :
    Calls Tryd.prog 7 #[.slice ao m c] w fun e w' => e = .returned (.string (S (fm xs m))) ∧ Below w.heap.size w w' := by
  subst hm
  exact format_any xs ao c w hok hat hin hlen htab

/-- Part of a slice. -/
def subA (ao : Option Addr) (c l : Nat) : Option Addr := if c = l then ao else ao.map (·.add (l * 1))
theorem sub_ok {ao : Option Addr} {n c l m : Nat} (h : SlOk ao n c) (hm : l + m ≤ n) : SlOk (subA ao c l) m (c - l) := by
  obtain ⟨h1, h2, h3⟩ := h
  refine ⟨by omega, by omega, fun e => ?_⟩
  unfold subA at e
  split at e
  · have := h3 e; omega
  · cases ao with
    | none => have := h3 rfl; omega
    | some a => simp at e
theorem sub_at {w : World} {ao : Option Addr} {xs : List Int} {c l m : Nat} (hc : xs.length ≤ c) (hm : l + m ≤ xs.length) (h : IsAt w ao xs) : IsAt w (subA ao c l) ((xs.drop l).take m) := by
  intro k hk
  have hk2 : k < m := by simp at hk; omega
  obtain ⟨b, o, rfl, hcell⟩ := h (l + k) (by omega)
  refine ⟨b, o + l, ?_, ?_⟩
  · unfold subA
    rw [if_neg (by omega)]
    simp [Addr.add_lit]
  · rw [at_take _ hk2, at_drop, Nat.add_assoc]
    exact hcell
theorem head_slice (ao : Option Addr) (n c k : Nat) (hc : n ≤ c) (hk : k ≤ n) (w : World) : (Instr.slice 22 (.slice ao n c) none (some (.int .i64 (k : Int))) none).run Tryd.prog w = .ok (.slice (subA ao c 0) k (c - 0)) w := by
  rw [run_slice_h (P := Tryd.prog) w 22 ao n c (by kernel_rfl) .i64 (k : Int) (by omega) (by omega)]
  have he : Tryd.prog.elem 22 = 3 := by kernel_rfl
  rw [he]
  simp only [go_sem, Tryd.sizeOf3, sliced, Int.toNat_natCast]
  rfl
theorem tail_slice (ao : Option Addr) (n c k r : Nat) (hc : n ≤ c) (hk : n = k + r) (w : World) : (Instr.slice 22 (.slice ao n c) (some (.int .i64 (k : Int))) none none).run Tryd.prog w = .ok (.slice (subA ao c k) r (c - k)) w := by
  rw [run_slice_l (P := Tryd.prog) w 22 ao n c (by kernel_rfl) .i64 (k : Int) (by omega) (by omega)]
  have he : Tryd.prog.elem 22 = 3 := by kernel_rfl
  rw [he]
  simp only [go_sem, Tryd.sizeOf3, sliced, Int.toNat_natCast]
  show Result.ok (Value.slice _ (n - k) (c - k)) w = _
  rw [show n - k = r by omega]
  rfl
theorem mid_slice (ao : Option Addr) (n c k : Nat) (hc : n ≤ c) (hk : k < n) (w : World) : (Instr.slice 22 (.slice ao n c) (some (.int .i64 (k : Int))) (some (.int .i64 ((k : Int) + 1))) none).run Tryd.prog w = .ok (.slice (subA ao c k) 1 (c - k)) w := by
  rw [run_slice_lh (P := Tryd.prog) w 22 ao n c (by kernel_rfl) .i64 .i64 (k : Int) ((k : Int) + 1) (by omega) (by omega) (by omega)]
  have he : Tryd.prog.elem 22 = 3 := by kernel_rfl
  rw [he]
  simp only [go_sem, Tryd.sizeOf3, sliced, Int.toNat_natCast]
  show Result.ok (Value.slice _ (((k : Int) + 1).toNat - k) (c - k)) w = _
  rw [show ((k : Int) + 1).toNat - k = 1 by omega]
  rfl

/-- What cloneInts gives. -/
def Cloned (a0 : Option Addr) (cap0 : Nat) (xs : List Int) (w : World) : Prop :=
  Calls Tryd.prog 6 #[.slice a0 xs.length cap0] w fun e w' => ∃ ao c, e = .returned (.slice ao xs.length c) ∧ SlOk ao xs.length c ∧ IsAt w' ao xs ∧ Below w.heap.size w w'
theorem fm_max {xs : List Int} (h : ∀ x ∈ xs, InI x) (m : Nat) (hm : m ≤ 131072) : (S (fm xs m)).size ≤ 4000000 := by
  rw [S_size]
  have := fm_len h m
  omega

set_option maxHeartbeats 600000 in
theorem lawB_0n (xs : List Int) (a0 : Option Addr) (cap0 kk : Nat) (w : World) (hcl : Cloned a0 cap0 xs w) (hin : ∀ x ∈ xs, InI x) (hlen : xs.length ≤ 131072) (htab : Tab w) (hk0 : kk = 0) (hn0 : ¬ kk < xs.length) :
    Calls Tryd.prog 4 #[.slice a0 xs.length cap0, .int .i64 (kk : Int)] w fun e w' => e = .returned (.bool true) ∧ Below w.heap.size w w' := by
  have hk0' : 0 ≤ (kk : Int) := by omega
  have HML := hid (show xs.length ≤ maxLen by unfold maxLen; omega)
  have HCL := hid hcl
  have HIN := hid hin
  have HTB := hid (Lib.tabBelow_of_tabIs htab)
  have HTL := hid (show (xs.take kk).length = kk by simp; omega)
  have HDL := hid (show (xs.drop kk).length = xs.length - kk by simp)
  have HN1 := hid (show ∀ x ∈ xs.take kk, InI x from fun x hx => hin x (List.mem_of_mem_take hx))
  have HN2 := hid (show ∀ x ∈ xs.drop kk, InI x from fun x hx => hin x (List.mem_of_mem_drop hx))
  obtain ⟨sW, HW⟩ : ∃ y, Hid (S (fm xs xs.length) = y) := ⟨_, hid rfl⟩
  obtain ⟨sA, HA⟩ : ∃ y, Hid (S (fm (xs.take kk) kk) = y) := ⟨_, hid rfl⟩
  have HB := hid (show S (fm (xs.drop kk) (xs.length - kk)) = sW by rw [hk0, List.drop_zero, Nat.sub_zero]; exact HW.out)
  have hk : kk ≤ xs.length := by omega
  have hkb : ((kk : Int) == 0) = true := by rw [beq_iff_eq]; omega
  clear hk0
  clear hcl hin htab
  go_enter Tryd.func4, Tryd.ntmps4
  go_wp2_with fail
  refine (bytesB_any _ _ _ _ HML.out _).mono ?_
  rintro e wq ⟨⟨bb, rfl⟩, rfl⟩
  cases bb with
  | false =>
    go_wp2_with fail
    go_ret
    exact ⟨rfl, Below.refl _ _⟩
  | true =>
    go_wp2_with fail
    refine HCL.out.mono ?_
    rintro e w2 ⟨ao, c, rfl, hok, hat, hb2⟩
    have HOK := hid hok
    have HAT := hid hat
    have hcn : xs.length ≤ c := hok.1
    have HT2 := hid (HTB.out w2 hb2)
    have hs1 := head_slice ao xs.length c kk hcn hk
    have hs2 := tail_slice ao xs.length c kk (xs.length - kk) hcn (by omega)
    have HO1 := hid (sub_ok (l := 0) (m := kk) hok (by omega))
    have HO2 := hid (sub_ok (l := kk) (m := xs.length - kk) hok (by omega))
    have HI1 := hid (show ∀ ww, IsAt ww ao xs → IsAt ww (subA ao c 0) (xs.take kk) from fun ww h => by have h1 := sub_at (l := 0) (m := kk) hcn (by omega) h; rw [List.drop_zero] at h1; exact h1)
    have HI2 := hid (show ∀ ww, IsAt ww ao xs → IsAt ww (subA ao c kk) (xs.drop kk) from fun ww h => by have h1 := sub_at (l := kk) (m := xs.length - kk) hcn (by omega) h; rw [List.take_of_length_le (by simp)] at h1; exact h1)
    obtain ⟨ao1, HA1⟩ : ∃ y, Hid (subA ao c 0 = y) := ⟨_, hid rfl⟩
    obtain ⟨ao2, HA2⟩ : ∃ y, Hid (subA ao c kk = y) := ⟨_, hid rfl⟩
    rw [HA1.out] at hs1 HO1 HI1
    rw [HA2.out] at hs2 HO2 HI2
    obtain ⟨c1, HC1⟩ : ∃ y, Hid (c - 0 = y) := ⟨_, hid rfl⟩
    obtain ⟨c2, HC2⟩ : ∃ y, Hid (c - kk = y) := ⟨_, hid rfl⟩
    rw [HC1.out] at hs1 HO1
    rw [HC2.out] at hs2 HO2
    clear hok hat
    go_wp2_with fail
    refine (format_as xs xs.length rfl _ c w2 HOK.out HAT.out HIN.out hlen HT2.out).mono ?_
    rintro e w3 ⟨rfl, hb3⟩
    rw [HW.out]
    have HAT3 := hid (HAT.out.keep hb3)
    have hB3 := bt hb2 hb3
    clear hb3
    go_wp2_with fail
    refine (format_as (xs.take kk) kk HTL.out ao1 c1 w3 HO1.out (HI1.out w3 HAT3.out) HN1.out (by omega) (HTB.out w3 hB3)).mono ?_
    rintro e w4 ⟨rfl, hb4⟩
    rw [HA.out]
    have HAT4 := hid (HAT3.out.keep hb4)
    have hB4 := bt hB3 hb4
    clear hb4
    go_wp2_with fail
    refine (format_as (xs.drop kk) (xs.length - kk) HDL.out ao2 c2 w4 HO2.out (HI2.out w4 HAT4.out) HN2.out (by omega) (HTB.out w4 hB4)).mono ?_
    rintro e w5 ⟨rfl, hb5⟩
    rw [HB.out]
    have HAT5 := hid (HAT4.out.keep hb5)
    have hB5 := bt hB4 hb5
    clear hb5
    go_wp2_with fail
    go_ret
    exact ⟨by simp, hB5⟩

set_option maxHeartbeats 600000 in
theorem lawB_0 (xs : List Int) (a0 : Option Addr) (cap0 kk : Nat) (w : World) (hcl : Cloned a0 cap0 xs w) (hin : ∀ x ∈ xs, InI x) (hlen : xs.length ≤ 131072) (htab : Tab w) (hk0 : kk = 0) (hkn : kk < xs.length) :
    Calls Tryd.prog 4 #[.slice a0 xs.length cap0, .int .i64 (kk : Int)] w fun e w' => e = .returned (.bool true) ∧ Below w.heap.size w w' := by
  have hk0' : 0 ≤ (kk : Int) := by omega
  have HML := hid (show xs.length ≤ maxLen by unfold maxLen; omega)
  have HCL := hid hcl
  have HIN := hid hin
  have HTB := hid (Lib.tabBelow_of_tabIs htab)
  have HTL := hid (show (xs.take kk).length = kk by simp; omega)
  have HDL := hid (show (xs.drop kk).length = xs.length - kk by simp)
  have HN1 := hid (show ∀ x ∈ xs.take kk, InI x from fun x hx => hin x (List.mem_of_mem_take hx))
  have HN2 := hid (show ∀ x ∈ xs.drop kk, InI x from fun x hx => hin x (List.mem_of_mem_drop hx))
  have HN3 := hid (show ∀ x ∈ (xs.drop kk).take 1, InI x from fun x hx => hin x (List.mem_of_mem_drop (List.mem_of_mem_take hx)))
  have HL3 := hid (show ((xs.drop kk).take 1).length = 1 by simp; omega)
  obtain ⟨x, HX⟩ : ∃ y, Hid (at' xs kk = y) := ⟨_, hid rfl⟩
  have HXI := hid (show InI x by rw [← HX.out]; exact at_in hin kk)
  obtain ⟨sx, HSX⟩ : ∃ y, Hid (S (it x) = y) := ⟨_, hid rfl⟩
  have HOX := hid (show S (fm ((xs.drop kk).take 1) 1) = sx by rw [fm_one, at_take _ (by omega), at_drop, Nat.add_zero, HX.out, HSX.out])
  obtain ⟨sW, HW⟩ : ∃ y, Hid (S (fm xs xs.length) = y) := ⟨_, hid rfl⟩
  obtain ⟨sA, HA⟩ : ∃ y, Hid (S (fm (xs.take kk) kk) = y) := ⟨_, hid rfl⟩
  have HB := hid (show S (fm (xs.drop kk) (xs.length - kk)) = sW by rw [hk0, List.drop_zero, Nat.sub_zero]; exact HW.out)
  have hk : kk ≤ xs.length := by omega
  have hkb : ((kk : Int) == 0) = true := by rw [beq_iff_eq]; omega
  clear hk0
  clear hcl hin htab
  go_enter Tryd.func4, Tryd.ntmps4
  go_wp2_with fail
  refine (bytesB_any _ _ _ _ HML.out _).mono ?_
  rintro e wq ⟨⟨bb, rfl⟩, rfl⟩
  cases bb with
  | false =>
    go_wp2_with fail
    go_ret
    exact ⟨rfl, Below.refl _ _⟩
  | true =>
    go_wp2_with fail
    refine HCL.out.mono ?_
    rintro e w2 ⟨ao, c, rfl, hok, hat, hb2⟩
    have HOK := hid hok
    have HAT := hid hat
    have hcn : xs.length ≤ c := hok.1
    have HT2 := hid (HTB.out w2 hb2)
    have hs1 := head_slice ao xs.length c kk hcn hk
    have hs2 := tail_slice ao xs.length c kk (xs.length - kk) hcn (by omega)
    have HO1 := hid (sub_ok (l := 0) (m := kk) hok (by omega))
    have HO2 := hid (sub_ok (l := kk) (m := xs.length - kk) hok (by omega))
    have HI1 := hid (show ∀ ww, IsAt ww ao xs → IsAt ww (subA ao c 0) (xs.take kk) from fun ww h => by have h1 := sub_at (l := 0) (m := kk) hcn (by omega) h; rw [List.drop_zero] at h1; exact h1)
    have HI2 := hid (show ∀ ww, IsAt ww ao xs → IsAt ww (subA ao c kk) (xs.drop kk) from fun ww h => by have h1 := sub_at (l := kk) (m := xs.length - kk) hcn (by omega) h; rw [List.take_of_length_le (by simp)] at h1; exact h1)
    obtain ⟨ao1, HA1⟩ : ∃ y, Hid (subA ao c 0 = y) := ⟨_, hid rfl⟩
    obtain ⟨ao2, HA2⟩ : ∃ y, Hid (subA ao c kk = y) := ⟨_, hid rfl⟩
    rw [HA1.out] at hs1 HO1 HI1
    rw [HA2.out] at hs2 HO2 HI2
    obtain ⟨c1, HC1⟩ : ∃ y, Hid (c - 0 = y) := ⟨_, hid rfl⟩
    obtain ⟨c2, HC2⟩ : ∃ y, Hid (c - kk = y) := ⟨_, hid rfl⟩
    rw [HC1.out] at hs1 HO1
    rw [HC2.out] at hs2 HO2
    clear hok hat
    obtain ⟨ob, oo, heo, hco⟩ := HAT.out kk hkn
    cases heo
    clear hco
    have hs3 := mid_slice (some ⟨ob, oo, none⟩) xs.length c kk hcn hkn
    have HO3 := hid (sub_ok (l := kk) (m := 1) HOK.out (by omega))
    have HI3 := hid (show ∀ ww, IsAt ww (some ⟨ob, oo, none⟩) xs → IsAt ww (subA (some ⟨ob, oo, none⟩) c kk) ((xs.drop kk).take 1) from fun ww h => sub_at (l := kk) (m := 1) hcn (by omega) h)
    rw [HA2.out, HC2.out] at hs3 HO3
    rw [HA2.out] at HI3
    go_wp2_with fail
    refine (format_as xs xs.length rfl _ c w2 HOK.out HAT.out HIN.out hlen HT2.out).mono ?_
    rintro e w3 ⟨rfl, hb3⟩
    rw [HW.out]
    have HAT3 := hid (HAT.out.keep hb3)
    have hB3 := bt hb2 hb3
    clear hb3
    go_wp2_with fail
    refine (format_as (xs.take kk) kk HTL.out ao1 c1 w3 HO1.out (HI1.out w3 HAT3.out) HN1.out (by omega) (HTB.out w3 hB3)).mono ?_
    rintro e w4 ⟨rfl, hb4⟩
    rw [HA.out]
    have HAT4 := hid (HAT3.out.keep hb4)
    have hB4 := bt hB3 hb4
    clear hb4
    go_wp2_with fail
    refine (format_as (xs.drop kk) (xs.length - kk) HDL.out ao2 c2 w4 HO2.out (HI2.out w4 HAT4.out) HN2.out (by omega) (HTB.out w4 hB4)).mono ?_
    rintro e w5 ⟨rfl, hb5⟩
    rw [HB.out]
    have HAT5 := hid (HAT4.out.keep hb5)
    have hB5 := bt hB4 hb5
    clear hb5
    have HAT6 := HAT5
    have hB6 := hB5
    obtain ⟨w6, rfl⟩ : ∃ y, y = w5 := ⟨_, rfl⟩
    go_wp2_with fail
    refine (format_as ((xs.drop kk).take 1) 1 HL3.out ao2 c2 w6 HO3.out (HI3.out w6 HAT6.out) HN3.out (by omega) (HTB.out w6 hB6)).mono ?_
    rintro e w7 ⟨rfl, hb7⟩
    rw [HOX.out]
    obtain ⟨ob7, oo7, he7, hc7⟩ := (HAT6.out.keep hb7) kk hkn
    cases he7
    rw [HX.out] at hc7
    have hB7 := bt hB6 hb7
    clear hb7
    go_wp2_with fail
    refine (appInt_any x HXI.out w7.heap.size (.slice none 0 0) [] w7 (World.ownsRow_nil _ _ _ _) (Nat.le_refl _) (by simp)).mono ?_
    rintro e w8 ⟨v8, rfl, hown8, hb8⟩
    rw [List.nil_append] at hown8
    have hcv := owns_conv hown8
    rw [HSX.out] at hcv
    have HB8 := hid (bt hB7 hb8)
    clear hown8 hb8
    go_wp2_with fail
    go_ret
    exact ⟨by simp, HB8.out⟩

set_option maxHeartbeats 600000 in
theorem lawB_n (xs : List Int) (a0 : Option Addr) (cap0 kk : Nat) (w : World) (hcl : Cloned a0 cap0 xs w) (hin : ∀ x ∈ xs, InI x) (hlen : xs.length ≤ 131072) (htab : Tab w) (hk0 : 0 < kk) (hkn : kk = xs.length) :
    Calls Tryd.prog 4 #[.slice a0 xs.length cap0, .int .i64 (kk : Int)] w fun e w' => e = .returned (.bool true) ∧ Below w.heap.size w w' := by
  have hk0' : 0 ≤ (kk : Int) := by omega
  have HML := hid (show xs.length ≤ maxLen by unfold maxLen; omega)
  have HCL := hid hcl
  have HIN := hid hin
  have HTB := hid (Lib.tabBelow_of_tabIs htab)
  have HTL := hid (show (xs.take kk).length = kk by simp; omega)
  have HDL := hid (show (xs.drop kk).length = xs.length - kk by simp)
  have HN1 := hid (show ∀ x ∈ xs.take kk, InI x from fun x hx => hin x (List.mem_of_mem_take hx))
  have HN2 := hid (show ∀ x ∈ xs.drop kk, InI x from fun x hx => hin x (List.mem_of_mem_drop hx))
  obtain ⟨sW, HW⟩ : ∃ y, Hid (S (fm xs xs.length) = y) := ⟨_, hid rfl⟩
  obtain ⟨sB, HB⟩ : ∃ y, Hid (S (fm (xs.drop kk) (xs.length - kk)) = y) := ⟨_, hid rfl⟩
  have HA := hid (show S (fm (xs.take kk) kk) = sW by rw [hkn, List.take_length]; exact HW.out)
  have hk : kk ≤ xs.length := by omega
  have hkb : ((kk : Int) == 0) = false := by rw [beq_eq_false_iff_ne]; omega
  have hknb : ((kk : Int) == (xs.length : Int)) = true := by rw [beq_iff_eq]; omega
  have hkn2 : ¬ kk < xs.length := by omega
  clear hkn
  clear hcl hin htab
  go_enter Tryd.func4, Tryd.ntmps4
  go_wp2_with fail
  refine (bytesB_any _ _ _ _ HML.out _).mono ?_
  rintro e wq ⟨⟨bb, rfl⟩, rfl⟩
  cases bb with
  | false =>
    go_wp2_with fail
    go_ret
    exact ⟨rfl, Below.refl _ _⟩
  | true =>
    go_wp2_with fail
    refine HCL.out.mono ?_
    rintro e w2 ⟨ao, c, rfl, hok, hat, hb2⟩
    have HOK := hid hok
    have HAT := hid hat
    have hcn : xs.length ≤ c := hok.1
    have HT2 := hid (HTB.out w2 hb2)
    have hs1 := head_slice ao xs.length c kk hcn hk
    have hs2 := tail_slice ao xs.length c kk (xs.length - kk) hcn (by omega)
    have HO1 := hid (sub_ok (l := 0) (m := kk) hok (by omega))
    have HO2 := hid (sub_ok (l := kk) (m := xs.length - kk) hok (by omega))
    have HI1 := hid (show ∀ ww, IsAt ww ao xs → IsAt ww (subA ao c 0) (xs.take kk) from fun ww h => by have h1 := sub_at (l := 0) (m := kk) hcn (by omega) h; rw [List.drop_zero] at h1; exact h1)
    have HI2 := hid (show ∀ ww, IsAt ww ao xs → IsAt ww (subA ao c kk) (xs.drop kk) from fun ww h => by have h1 := sub_at (l := kk) (m := xs.length - kk) hcn (by omega) h; rw [List.take_of_length_le (by simp)] at h1; exact h1)
    obtain ⟨ao1, HA1⟩ : ∃ y, Hid (subA ao c 0 = y) := ⟨_, hid rfl⟩
    obtain ⟨ao2, HA2⟩ : ∃ y, Hid (subA ao c kk = y) := ⟨_, hid rfl⟩
    rw [HA1.out] at hs1 HO1 HI1
    rw [HA2.out] at hs2 HO2 HI2
    obtain ⟨c1, HC1⟩ : ∃ y, Hid (c - 0 = y) := ⟨_, hid rfl⟩
    obtain ⟨c2, HC2⟩ : ∃ y, Hid (c - kk = y) := ⟨_, hid rfl⟩
    rw [HC1.out] at hs1 HO1
    rw [HC2.out] at hs2 HO2
    clear hok hat
    go_wp2_with fail
    refine (format_as xs xs.length rfl _ c w2 HOK.out HAT.out HIN.out hlen HT2.out).mono ?_
    rintro e w3 ⟨rfl, hb3⟩
    rw [HW.out]
    have HAT3 := hid (HAT.out.keep hb3)
    have hB3 := bt hb2 hb3
    clear hb3
    go_wp2_with fail
    refine (format_as (xs.take kk) kk HTL.out ao1 c1 w3 HO1.out (HI1.out w3 HAT3.out) HN1.out (by omega) (HTB.out w3 hB3)).mono ?_
    rintro e w4 ⟨rfl, hb4⟩
    rw [HA.out]
    have HAT4 := hid (HAT3.out.keep hb4)
    have hB4 := bt hB3 hb4
    clear hb4
    go_wp2_with fail
    refine (format_as (xs.drop kk) (xs.length - kk) HDL.out ao2 c2 w4 HO2.out (HI2.out w4 HAT4.out) HN2.out (by omega) (HTB.out w4 hB4)).mono ?_
    rintro e w5 ⟨rfl, hb5⟩
    rw [HB.out]
    have HAT5 := hid (HAT4.out.keep hb5)
    have hB5 := bt hB4 hb5
    clear hb5
    go_wp2_with fail
    go_ret
    exact ⟨by simp, hB5⟩

set_option maxHeartbeats 600000 in
theorem lawB_apart (xs : List Int) (a0 : Option Addr) (cap0 kk : Nat) (w : World) (hcl : Cloned a0 cap0 xs w) (hin : ∀ x ∈ xs, InI x) (hlen : xs.length ≤ 131072) (htab : Tab w) (hk0 : 0 < kk) (hkn : kk < xs.length) (hop : Opens xs kk) :
    Calls Tryd.prog 4 #[.slice a0 xs.length cap0, .int .i64 (kk : Int)] w fun e w' => e = .returned (.bool true) ∧ Below w.heap.size w w' := by
  have hk0' : 0 ≤ (kk : Int) := by omega
  have HML := hid (show xs.length ≤ maxLen by unfold maxLen; omega)
  have HCL := hid hcl
  have HIN := hid hin
  have HTB := hid (Lib.tabBelow_of_tabIs htab)
  have HTL := hid (show (xs.take kk).length = kk by simp; omega)
  have HDL := hid (show (xs.drop kk).length = xs.length - kk by simp)
  have HN1 := hid (show ∀ x ∈ xs.take kk, InI x from fun x hx => hin x (List.mem_of_mem_take hx))
  have HN2 := hid (show ∀ x ∈ xs.drop kk, InI x from fun x hx => hin x (List.mem_of_mem_drop hx))
  have HN3 := hid (show ∀ x ∈ (xs.drop kk).take 1, InI x from fun x hx => hin x (List.mem_of_mem_drop (List.mem_of_mem_take hx)))
  have HL3 := hid (show ((xs.drop kk).take 1).length = 1 by simp; omega)
  obtain ⟨x, HX⟩ : ∃ y, Hid (at' xs kk = y) := ⟨_, hid rfl⟩
  have HXI := hid (show InI x by rw [← HX.out]; exact at_in hin kk)
  obtain ⟨sx, HSX⟩ : ∃ y, Hid (S (it x) = y) := ⟨_, hid rfl⟩
  have HOX := hid (show S (fm ((xs.drop kk).take 1) 1) = sx by rw [fm_one, at_take _ (by omega), at_drop, Nat.add_zero, HX.out, HSX.out])
  have hk : kk ≤ xs.length := by omega
  have hkb : ((kk : Int) == 0) = false := by rw [beq_eq_false_iff_ne]; omega
  have hknb : ((kk : Int) == (xs.length : Int)) = false := by rw [beq_eq_false_iff_ne]; omega
  obtain ⟨kp, HKP⟩ : ∃ kp, Hid (kk = kp + 1) := ⟨kk - 1, hid (by omega)⟩
  obtain ⟨z, HZ⟩ : ∃ y, Hid (at' xs kp = y) := ⟨_, hid rfl⟩
  have hzb : (wrap64 (z + 1) == x) = false := by
    have h1 := hop
    rw [HKP.out, opens_succ, HZ.out, ← HKP.out, HX.out, inc_eq] at h1
    rw [beq_eq_false_iff_ne]
    exact h1
  have h1 := fm_max HN1.out kk (by omega)
  have h2 := fm_max HN2.out (xs.length - kk) (by omega)
  obtain ⟨sA, HA⟩ : ∃ y, Hid (S (fm (xs.take kk) kk) = y) := ⟨_, hid rfl⟩
  obtain ⟨sB, HB⟩ : ∃ y, Hid (S (fm (xs.drop kk) (xs.length - kk)) = y) := ⟨_, hid rfl⟩
  have HW := hid (show S (fm xs xs.length) = (sA ++ ⟨#[44]⟩) ++ sB by rw [← HA.out, ← HB.out, join_apart xs kk hk0 hkn hop, ← S_append, ← S_append]; rfl)
  rw [HA.out] at h1
  rw [HB.out] at h2
  have hz1 : (sA ++ (⟨#[44]⟩ : ByteArray)).size = sA.size + 1 := by simp [ByteArray.size_append]; rfl
  have hz2 : (sA ++ (⟨#[44]⟩ : ByteArray)).size + sB.size ≤ 9223372036854775807 := by omega
  clear hop
  clear hcl hin htab
  go_enter Tryd.func4, Tryd.ntmps4
  go_wp2_with fail
  refine (bytesB_any _ _ _ _ HML.out _).mono ?_
  rintro e wq ⟨⟨bb, rfl⟩, rfl⟩
  cases bb with
  | false =>
    go_wp2_with fail
    go_ret
    exact ⟨rfl, Below.refl _ _⟩
  | true =>
    go_wp2_with fail
    refine HCL.out.mono ?_
    rintro e w2 ⟨ao, c, rfl, hok, hat, hb2⟩
    have HOK := hid hok
    have HAT := hid hat
    have hcn : xs.length ≤ c := hok.1
    have HT2 := hid (HTB.out w2 hb2)
    have hs1 := head_slice ao xs.length c kk hcn hk
    have hs2 := tail_slice ao xs.length c kk (xs.length - kk) hcn (by omega)
    have HO1 := hid (sub_ok (l := 0) (m := kk) hok (by omega))
    have HO2 := hid (sub_ok (l := kk) (m := xs.length - kk) hok (by omega))
    have HI1 := hid (show ∀ ww, IsAt ww ao xs → IsAt ww (subA ao c 0) (xs.take kk) from fun ww h => by have h1 := sub_at (l := 0) (m := kk) hcn (by omega) h; rw [List.drop_zero] at h1; exact h1)
    have HI2 := hid (show ∀ ww, IsAt ww ao xs → IsAt ww (subA ao c kk) (xs.drop kk) from fun ww h => by have h1 := sub_at (l := kk) (m := xs.length - kk) hcn (by omega) h; rw [List.take_of_length_le (by simp)] at h1; exact h1)
    obtain ⟨ao1, HA1⟩ : ∃ y, Hid (subA ao c 0 = y) := ⟨_, hid rfl⟩
    obtain ⟨ao2, HA2⟩ : ∃ y, Hid (subA ao c kk = y) := ⟨_, hid rfl⟩
    rw [HA1.out] at hs1 HO1 HI1
    rw [HA2.out] at hs2 HO2 HI2
    obtain ⟨c1, HC1⟩ : ∃ y, Hid (c - 0 = y) := ⟨_, hid rfl⟩
    obtain ⟨c2, HC2⟩ : ∃ y, Hid (c - kk = y) := ⟨_, hid rfl⟩
    rw [HC1.out] at hs1 HO1
    rw [HC2.out] at hs2 HO2
    clear hok hat
    obtain ⟨ob, oo, heo, hco⟩ := HAT.out kk hkn
    cases heo
    clear hco
    have hs3 := mid_slice (some ⟨ob, oo, none⟩) xs.length c kk hcn hkn
    have HO3 := hid (sub_ok (l := kk) (m := 1) HOK.out (by omega))
    have HI3 := hid (show ∀ ww, IsAt ww (some ⟨ob, oo, none⟩) xs → IsAt ww (subA (some ⟨ob, oo, none⟩) c kk) ((xs.drop kk).take 1) from fun ww h => sub_at (l := kk) (m := 1) hcn (by omega) h)
    rw [HA2.out, HC2.out] at hs3 HO3
    rw [HA2.out] at HI3
    go_wp2_with fail
    refine (format_as xs xs.length rfl _ c w2 HOK.out HAT.out HIN.out hlen HT2.out).mono ?_
    rintro e w3 ⟨rfl, hb3⟩
    rw [HW.out]
    have HAT3 := hid (HAT.out.keep hb3)
    have hB3 := bt hb2 hb3
    clear hb3
    go_wp2_with fail
    refine (format_as (xs.take kk) kk HTL.out ao1 c1 w3 HO1.out (HI1.out w3 HAT3.out) HN1.out (by omega) (HTB.out w3 hB3)).mono ?_
    rintro e w4 ⟨rfl, hb4⟩
    rw [HA.out]
    have HAT4 := hid (HAT3.out.keep hb4)
    have hB4 := bt hB3 hb4
    clear hb4
    go_wp2_with fail
    refine (format_as (xs.drop kk) (xs.length - kk) HDL.out ao2 c2 w4 HO2.out (HI2.out w4 HAT4.out) HN2.out (by omega) (HTB.out w4 hB4)).mono ?_
    rintro e w5 ⟨rfl, hb5⟩
    rw [HB.out]
    have HAT5 := hid (HAT4.out.keep hb5)
    have hB5 := bt hB4 hb5
    clear hb5
    obtain ⟨ob2, oo2, he5, hc5⟩ := HAT5.out kk hkn
    cases he5
    obtain ⟨ob3, oo3, he4, hc4⟩ := HAT5.out kp (by have := HKP.out; omega)
    cases he4
    rw [HX.out] at hc5
    rw [HZ.out] at hc4
    obtain ⟨kk', rfl⟩ : ∃ y, y = kp := ⟨kp, rfl⟩
    have hkm : (kk : Int) - 1 = (kk' : Int) := by have := HKP.out; omega
    go_wp2_with fail
    go_quiet (fail)
    have HAT6 := hid (HAT5.out.keep (below_drewN (Below.refl w5.heap.size w5) nq))
    have hB6 := bt hB5 (below_drewN (Below.refl w5.heap.size w5) nq)
    obtain ⟨w6, HW6⟩ : ∃ y, Hid (y = w5.drewN nq) := ⟨_, hid rfl⟩
    rw [← HW6.out] at HAT6 hB6 ⊢
    clear HW6 hc4 hc5
    go_wp2_with fail
    refine (format_as ((xs.drop kk).take 1) 1 HL3.out ao2 c2 w6 HO3.out (HI3.out w6 HAT6.out) HN3.out (by omega) (HTB.out w6 hB6)).mono ?_
    rintro e w7 ⟨rfl, hb7⟩
    rw [HOX.out]
    obtain ⟨ob7, oo7, he7, hc7⟩ := (HAT6.out.keep hb7) kk hkn
    cases he7
    rw [HX.out] at hc7
    have hB7 := bt hB6 hb7
    clear hb7
    go_wp2_with fail
    refine (appInt_any x HXI.out w7.heap.size (.slice none 0 0) [] w7 (World.ownsRow_nil _ _ _ _) (Nat.le_refl _) (by simp)).mono ?_
    rintro e w8 ⟨v8, rfl, hown8, hb8⟩
    rw [List.nil_append] at hown8
    have hcv := owns_conv hown8
    rw [HSX.out] at hcv
    have HB8 := hid (bt hB7 hb8)
    clear hown8 hb8
    go_wp2_with fail
    go_ret
    exact ⟨by simp, HB8.out⟩

set_option maxHeartbeats 600000 in
theorem lawB_run (xs : List Int) (a0 : Option Addr) (cap0 kk : Nat) (w : World) (hcl : Cloned a0 cap0 xs w) (hin : ∀ x ∈ xs, InI x) (hlen : xs.length ≤ 131072) (htab : Tab w) (hk0 : 0 < kk) (hkn : kk < xs.length) (hop : ¬ Opens xs kk) :
    Calls Tryd.prog 4 #[.slice a0 xs.length cap0, .int .i64 (kk : Int)] w fun e w' => e = .returned (.bool true) ∧ Below w.heap.size w w' := by
  have hk0' : 0 ≤ (kk : Int) := by omega
  have HML := hid (show xs.length ≤ maxLen by unfold maxLen; omega)
  have HCL := hid hcl
  have HIN := hid hin
  have HTB := hid (Lib.tabBelow_of_tabIs htab)
  have HTL := hid (show (xs.take kk).length = kk by simp; omega)
  have HDL := hid (show (xs.drop kk).length = xs.length - kk by simp)
  have HN1 := hid (show ∀ x ∈ xs.take kk, InI x from fun x hx => hin x (List.mem_of_mem_take hx))
  have HN2 := hid (show ∀ x ∈ xs.drop kk, InI x from fun x hx => hin x (List.mem_of_mem_drop hx))
  have HN3 := hid (show ∀ x ∈ (xs.drop kk).take 1, InI x from fun x hx => hin x (List.mem_of_mem_drop (List.mem_of_mem_take hx)))
  have HL3 := hid (show ((xs.drop kk).take 1).length = 1 by simp; omega)
  obtain ⟨x, HX⟩ : ∃ y, Hid (at' xs kk = y) := ⟨_, hid rfl⟩
  have HXI := hid (show InI x by rw [← HX.out]; exact at_in hin kk)
  obtain ⟨sx, HSX⟩ : ∃ y, Hid (S (it x) = y) := ⟨_, hid rfl⟩
  have HOX := hid (show S (fm ((xs.drop kk).take 1) 1) = sx by rw [fm_one, at_take _ (by omega), at_drop, Nat.add_zero, HX.out, HSX.out])
  have hk : kk ≤ xs.length := by omega
  have hkb : ((kk : Int) == 0) = false := by rw [beq_eq_false_iff_ne]; omega
  have hknb : ((kk : Int) == (xs.length : Int)) = false := by rw [beq_eq_false_iff_ne]; omega
  obtain ⟨kp, HKP⟩ : ∃ kp, Hid (kk = kp + 1) := ⟨kk - 1, hid (by omega)⟩
  obtain ⟨z, HZ⟩ : ∃ y, Hid (at' xs kp = y) := ⟨_, hid rfl⟩
  have hzb : (wrap64 (z + 1) == x) = true := by
    have h1 := hop
    rw [HKP.out, opens_succ, HZ.out, ← HKP.out, HX.out, inc_eq] at h1
    rw [beq_iff_eq]
    exact Classical.byContradiction h1
  obtain ⟨P, s, E, t, E2, u, R, hA, hP, hE, hB, hE2, hR, hW⟩ := join_run xs kk hk0 hkn hop
  have l1 : (P ++ it s ++ E).length ≤ 4000000 := by rw [← hA]; have := fm_len HN1.out kk; omega
  have l2 : (it t ++ E2 ++ R).length ≤ 4000000 := by rw [← hB]; have := fm_len HN2.out (xs.length - kk); omega
  have l3 : ((P ++ it s) ++ [45] ++ (it u ++ R)).length ≤ 4000000 := by rw [← hW]; have := fm_len hin xs.length; omega
  have HTR := hid (show ∀ ww, Calls Tryd.prog 10 #[.string (S (P ++ it s ++ E))] ww fun e w' => e = .returned (.string (S (P ++ it s))) ∧ w' = ww from fun ww =>
    trim_any P (it s) E hP (List.length_pos_iff.2 (it_ne s)) (it_no44 s) (it_no45 s) (by rcases hE with h | ⟨e, h⟩; exact Or.inl h; exact Or.inr ⟨_, h⟩) (by
      rcases hE with h | ⟨e, h⟩
      · rw [h]; intro b hb; cases hb
      · rw [h]
        intro b hb
        rcases List.mem_cons.1 hb with hb | hb
        · rw [hb]; decide
        · exact it_no44 e b hb) (by omega) ww)
  have HDR := hid (show ∀ ww, Calls Tryd.prog 11 #[.string (S (it t ++ E2 ++ R))] ww fun e w' => e = .returned (.string (S (it u ++ R))) ∧ w' = ww from fun ww =>
    drop_any (it t) E2 (it u) R (List.length_pos_iff.2 (it_ne t)) (it_no44 t) (it_no45 t) (by rcases hE2 with ⟨h, h'⟩ | h; exact Or.inl ⟨h, by rw [h']⟩; exact Or.inr h) (it_no44 u) hR (by omega) ww)
  rw [← hA] at HTR
  rw [← hB] at HDR
  obtain ⟨sA, HA⟩ : ∃ y, Hid (S (fm (xs.take kk) kk) = y) := ⟨_, hid rfl⟩
  obtain ⟨sB, HB⟩ : ∃ y, Hid (S (fm (xs.drop kk) (xs.length - kk)) = y) := ⟨_, hid rfl⟩
  rw [HA.out] at HTR
  rw [HB.out] at HDR
  have HW0 := hid (show S (fm xs xs.length) = (S (P ++ it s) ++ ⟨#[45]⟩) ++ S (it u ++ R) by rw [hW, ← S_append, ← S_append]; rfl)
  have z1 : (S (P ++ it s)).size ≤ 4000000 := by rw [S_size]; simp only [List.length_append, List.length_cons, List.length_nil] at l3 ⊢; omega
  have z2 : (S (it u ++ R)).size ≤ 4000000 := by rw [S_size]; simp only [List.length_append, List.length_cons, List.length_nil] at l3 ⊢; omega
  obtain ⟨tA, HTA⟩ : ∃ y, Hid (S (P ++ it s) = y) := ⟨_, hid rfl⟩
  obtain ⟨tB, HTBB⟩ : ∃ y, Hid (S (it u ++ R) = y) := ⟨_, hid rfl⟩
  rw [HTA.out] at HTR HW0 z1
  rw [HTBB.out] at HDR HW0 z2
  have HW := HW0
  have hz1 : (tA ++ (⟨#[45]⟩ : ByteArray)).size = tA.size + 1 := by simp [ByteArray.size_append]; rfl
  have hz2 : (tA ++ (⟨#[45]⟩ : ByteArray)).size + tB.size ≤ 9223372036854775807 := by omega
  clear hop hA hP hE hB hE2 hR hW l1 l2 l3
  clear hcl hin htab
  go_enter Tryd.func4, Tryd.ntmps4
  go_wp2_with fail
  refine (bytesB_any _ _ _ _ HML.out _).mono ?_
  rintro e wq ⟨⟨bb, rfl⟩, rfl⟩
  cases bb with
  | false =>
    go_wp2_with fail
    go_ret
    exact ⟨rfl, Below.refl _ _⟩
  | true =>
    go_wp2_with fail
    refine HCL.out.mono ?_
    rintro e w2 ⟨ao, c, rfl, hok, hat, hb2⟩
    have HOK := hid hok
    have HAT := hid hat
    have hcn : xs.length ≤ c := hok.1
    have HT2 := hid (HTB.out w2 hb2)
    have hs1 := head_slice ao xs.length c kk hcn hk
    have hs2 := tail_slice ao xs.length c kk (xs.length - kk) hcn (by omega)
    have HO1 := hid (sub_ok (l := 0) (m := kk) hok (by omega))
    have HO2 := hid (sub_ok (l := kk) (m := xs.length - kk) hok (by omega))
    have HI1 := hid (show ∀ ww, IsAt ww ao xs → IsAt ww (subA ao c 0) (xs.take kk) from fun ww h => by have h1 := sub_at (l := 0) (m := kk) hcn (by omega) h; rw [List.drop_zero] at h1; exact h1)
    have HI2 := hid (show ∀ ww, IsAt ww ao xs → IsAt ww (subA ao c kk) (xs.drop kk) from fun ww h => by have h1 := sub_at (l := kk) (m := xs.length - kk) hcn (by omega) h; rw [List.take_of_length_le (by simp)] at h1; exact h1)
    obtain ⟨ao1, HA1⟩ : ∃ y, Hid (subA ao c 0 = y) := ⟨_, hid rfl⟩
    obtain ⟨ao2, HA2⟩ : ∃ y, Hid (subA ao c kk = y) := ⟨_, hid rfl⟩
    rw [HA1.out] at hs1 HO1 HI1
    rw [HA2.out] at hs2 HO2 HI2
    obtain ⟨c1, HC1⟩ : ∃ y, Hid (c - 0 = y) := ⟨_, hid rfl⟩
    obtain ⟨c2, HC2⟩ : ∃ y, Hid (c - kk = y) := ⟨_, hid rfl⟩
    rw [HC1.out] at hs1 HO1
    rw [HC2.out] at hs2 HO2
    clear hok hat
    obtain ⟨ob, oo, heo, hco⟩ := HAT.out kk hkn
    cases heo
    clear hco
    have hs3 := mid_slice (some ⟨ob, oo, none⟩) xs.length c kk hcn hkn
    have HO3 := hid (sub_ok (l := kk) (m := 1) HOK.out (by omega))
    have HI3 := hid (show ∀ ww, IsAt ww (some ⟨ob, oo, none⟩) xs → IsAt ww (subA (some ⟨ob, oo, none⟩) c kk) ((xs.drop kk).take 1) from fun ww h => sub_at (l := kk) (m := 1) hcn (by omega) h)
    rw [HA2.out, HC2.out] at hs3 HO3
    rw [HA2.out] at HI3
    go_wp2_with fail
    refine (format_as xs xs.length rfl _ c w2 HOK.out HAT.out HIN.out hlen HT2.out).mono ?_
    rintro e w3 ⟨rfl, hb3⟩
    rw [HW.out]
    have HAT3 := hid (HAT.out.keep hb3)
    have hB3 := bt hb2 hb3
    clear hb3
    go_wp2_with fail
    refine (format_as (xs.take kk) kk HTL.out ao1 c1 w3 HO1.out (HI1.out w3 HAT3.out) HN1.out (by omega) (HTB.out w3 hB3)).mono ?_
    rintro e w4 ⟨rfl, hb4⟩
    rw [HA.out]
    have HAT4 := hid (HAT3.out.keep hb4)
    have hB4 := bt hB3 hb4
    clear hb4
    go_wp2_with fail
    refine (format_as (xs.drop kk) (xs.length - kk) HDL.out ao2 c2 w4 HO2.out (HI2.out w4 HAT4.out) HN2.out (by omega) (HTB.out w4 hB4)).mono ?_
    rintro e w5 ⟨rfl, hb5⟩
    rw [HB.out]
    have HAT5 := hid (HAT4.out.keep hb5)
    have hB5 := bt hB4 hb5
    clear hb5
    obtain ⟨ob2, oo2, he5, hc5⟩ := HAT5.out kk hkn
    cases he5
    obtain ⟨ob3, oo3, he4, hc4⟩ := HAT5.out kp (by have := HKP.out; omega)
    cases he4
    rw [HX.out] at hc5
    rw [HZ.out] at hc4
    obtain ⟨kk', rfl⟩ : ∃ y, y = kp := ⟨kp, rfl⟩
    have hkm : (kk : Int) - 1 = (kk' : Int) := by have := HKP.out; omega
    go_wp2_with fail
    go_quiet (fail)
    have HAT6 := hid (HAT5.out.keep (below_drewN (Below.refl w5.heap.size w5) nq))
    have hB6 := bt hB5 (below_drewN (Below.refl w5.heap.size w5) nq)
    obtain ⟨w6, HW6⟩ : ∃ y, Hid (y = w5.drewN nq) := ⟨_, hid rfl⟩
    rw [← HW6.out] at HAT6 hB6 ⊢
    clear HW6 hc4 hc5
    go_wp2_with fail
    refine (HTR.out _).mono ?_
    rintro e w6a ⟨rfl, rfl⟩
    go_wp2_with fail
    refine (HDR.out _).mono ?_
    rintro e w6b ⟨rfl, rfl⟩
    obtain ⟨w6, rfl⟩ : ∃ y, y = w6b := ⟨_, rfl⟩
    go_wp2_with fail
    refine (format_as ((xs.drop kk).take 1) 1 HL3.out ao2 c2 w6 HO3.out (HI3.out w6 HAT6.out) HN3.out (by omega) (HTB.out w6 hB6)).mono ?_
    rintro e w7 ⟨rfl, hb7⟩
    rw [HOX.out]
    obtain ⟨ob7, oo7, he7, hc7⟩ := (HAT6.out.keep hb7) kk hkn
    cases he7
    rw [HX.out] at hc7
    have hB7 := bt hB6 hb7
    clear hb7
    go_wp2_with fail
    refine (appInt_any x HXI.out w7.heap.size (.slice none 0 0) [] w7 (World.ownsRow_nil _ _ _ _) (Nat.le_refl _) (by simp)).mono ?_
    rintro e w8 ⟨v8, rfl, hown8, hb8⟩
    rw [List.nil_append] at hown8
    have hcv := owns_conv hown8
    rw [HSX.out] at hcv
    have HB8 := hid (bt hB7 hb8)
    clear hown8 hb8
    go_wp2_with fail
    go_ret
    exact ⟨by simp, HB8.out⟩

end Go.Proofs.Qxb6630591aDoor
