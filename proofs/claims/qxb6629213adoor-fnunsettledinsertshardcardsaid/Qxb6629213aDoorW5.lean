import Derived.Test.Qxb6629213aDoorW4
namespace Go.Proofs.Qxb6629213aDoor
open Go.RowKit
set_option linter.unusedVariables false
set_option linter.unusedSimpArgs false

theorem setd_sum (d : Sd) : setd d = true ↔ cM d.ns = 1 ∧ (cL d.ns : Int) = d.r ∧ cM d.ns + cL d.ns = d.ns.length := by
  have key : ∀ ns : List Nd, cM ns + cL ns ≤ ns.length ∧ (cM ns + cL ns = ns.length ↔ ns.all good = true) := by
    intro ns
    induction ns with
    | nil => simp [cM, cL]
    | cons n ns ih =>
      have e1 : cM (n :: ns) = (if isM n then 1 else 0) + cM ns := by unfold cM; by_cases h : isM n <;> simp [h]; omega
      have e2 : cL (n :: ns) = (if isL n then 1 else 0) + cL ns := by unfold cL; by_cases h : isL n <;> simp [h]; omega
      rw [e1, e2, List.all_cons, List.length_cons]
      by_cases hM : isM n = true
      · have hL : isL n = false := by simp [isL, not_MR hM]
        simp only [hM, hL, good, if_true, Bool.true_or, Bool.true_and, Bool.false_eq_true, if_false]
        exact ⟨by omega, by rw [← ih.2]; omega⟩
      · by_cases hL : isL n = true
        · simp only [hM, hL, good, if_true, Bool.or_true, Bool.true_and, if_false, Bool.false_eq_true]
          exact ⟨by omega, by rw [← ih.2]; omega⟩
        · simp only [hM, hL, good, if_false, Bool.or_false, Bool.false_and, Bool.false_eq_true, iff_false]
          exact ⟨by omega, by omega⟩
  unfold setd
  rw [Bool.and_eq_true, Bool.and_eq_true, decide_eq_true_iff, decide_eq_true_iff, ← (key d.ns).2]
  exact ⟨fun ⟨⟨a, b⟩, c⟩ => ⟨b, c, a⟩, fun ⟨a, b, c⟩ => ⟨⟨c, a⟩, b⟩⟩

set_option maxHeartbeats 1000000 in
theorem zzsettled_any (d : Sd) (ao : Option Addr) (c : Nat) (w : World) (hok : SlOk ao d.ns.length c) (hn : NdsAt w 0 ao d.ns) (hs : SdSmall d) :
    Calls Tryd.prog 13 #[.agg #[.int .i64 d.i, .int .i64 d.f, .int .i64 d.t, .int .i64 d.r, .slice ao d.ns.length c, .int .u64 d.o]] w fun e w' => e = .returned (.bool (setd d)) ∧ Below w.heap.size w w' := by
  obtain ⟨ho1, ho2, ho3⟩ := hok
  unfold maxLen at ho2
  unfold SdSmall at hs
  have hbel := (Below.refl w.heap.size w).alloc (Nat.le_refl _) (Obj.cells #[.int .i64 d.i, .int .i64 d.f, .int .i64 d.t, .int .i64 d.r, .slice ao d.ns.length c, .int .u64 d.o] 26)
  have HBL := hid hbel
  clear hbel
  go_enter Tryd.func13, Tryd.ntmps13
  go_wp2_with fail
  go_loop [9, 3, 4] (fun i m l => ∃ k : Nat, k ≤ d.ns.length ∧ i = .int .i64 k ∧ m = .int .i64 (cM (d.ns.take k)) ∧ l = .int .i64 (cL (d.ns.take k)))
    (fun i _ _ => d.ns.length - (intOf i).toNat)
  case atStart => exact ⟨0, Nat.zero_le _, rfl, rfl, rfl⟩
  case round =>
    obtain ⟨k, hk, rfl, rfl, rfl⟩ := hrel
    have hm := cM_le (d.ns.take k)
    have hl := cL_le (d.ns.take k)
    have hlt' : (d.ns.take k).length ≤ k := List.length_take_le _ _
    by_cases hlt : k < d.ns.length
    · obtain ⟨n, hd, hmem⟩ := get_lt hlt
      obtain ⟨nb, no, he, -, q1, q2, q3, q4⟩ := hn k n hd
      cases he
      have hbw : nb < w.heap.size := World.block_lt_of_cell? w _ q1
      have HM := hid (show cM (d.ns.take (k + 1)) = cM (d.ns.take k) + if isM n then 1 else 0 by rw [take_snoc hd]; exact cM_snoc _ _)
      have HLL := hid (show cL (d.ns.take (k + 1)) = cL (d.ns.take k) + if isL n then 1 else 0 by rw [take_snoc hd]; exact cL_snoc _ _)
      clear hd
      by_cases hM : isM n = true
      · have hM' : (n.r.toList == [109, 97, 115, 116, 101, 114]) = true := hM
        have hR' : (n.r.toList == [114, 101, 112, 108, 105, 99, 97]) = false := not_MR hM
        have HMM := hid hM
        clear hM
        go_wp2_with fail
        go_round
        case rel => exact ⟨k + 1, by omega, by go_num, by rw [HM.out, if_pos HMM.out]; go_num, by rw [HLL.out, if_neg (by simp [isL, not_MR HMM.out])]; rfl⟩
        case measure => simp [intOf]; omega
      · have hM' : (n.r.toList == [109, 97, 115, 116, 101, 114]) = false := by simpa [isM] using hM
        have HMM := hid hM
        clear hM
        by_cases hR : isR n = true
        · have hR' : (n.r.toList == [114, 101, 112, 108, 105, 99, 97]) = true := hR
          have HR := hid hR
          clear hR
          by_cases hU : isU n = true
          · have hU' : (n.l.toList == [117, 112]) = true := hU
            have HU := hid hU
            clear hU
            go_wp2_with fail
            go_round
            case rel => exact ⟨k + 1, by omega, by go_num, by rw [HM.out, if_neg HMM.out]; rfl, by rw [HLL.out, if_pos (by simp [isL, HR.out, HU.out])]; go_num⟩
            case measure => simp [intOf]; omega
          · have hU' : (n.l.toList == [117, 112]) = false := by simpa [isU] using hU
            have HU := hid hU
            clear hU
            go_wp2_with fail
            go_round
            case rel => exact ⟨k + 1, by omega, by go_num, by rw [HM.out, if_neg HMM.out]; rfl, by rw [HLL.out, if_neg (by simp [isL, HU.out])]; rfl⟩
            case measure => simp [intOf]; omega
        · have hR' : (n.r.toList == [114, 101, 112, 108, 105, 99, 97]) = false := by simpa [isR] using hR
          have HR := hid hR
          clear hR
          go_wp2_with fail
          go_round
          case rel => exact ⟨k + 1, by omega, by go_num, by rw [HM.out, if_neg HMM.out]; rfl, by rw [HLL.out, if_neg (by simp [isL, HR.out])]; rfl⟩
          case measure => simp [intOf]; omega
    · have HK := hid (show d.ns.take k = d.ns from List.take_of_length_le (by omega))
      by_cases hone : cM (d.ns.take k) = 1
      · have hone' : ((cM (d.ns.take k) : Int) == 1) = true := by simp [hone]
        have HO := hid hone
        clear hone
        by_cases hre : (cL (d.ns.take k) : Int) = d.r
        · have hre' : ((cL (d.ns.take k) : Int) == d.r) = true := by simp [hre]
          have HR := hid hre
          clear hre
          go_wp2_with fail
          go_ret
          refine ⟨ret_bool ?_, HBL.out⟩
          have e := setd_sum d
          rw [HK.out] at *
          have h1 := HO.out
          have h2 := HR.out
          rw [HK.out] at h1 h2
          rw [Bool.eq_iff_iff, e]
          simp [h1, h2]
          omega
        · have hre' : ((cL (d.ns.take k) : Int) == d.r) = false := by rw [beq_eq_false_iff_ne]; exact hre
          have HR := hid hre
          clear hre
          go_wp2_with fail
          go_ret
          refine ⟨ret_bool ?_, HBL.out⟩
          have e := setd_sum d
          have h2 := HR.out
          rw [HK.out] at h2
          symm
          rw [← Bool.not_eq_true, e]
          exact fun h => h2 h.2.1
      · have hone' : ((cM (d.ns.take k) : Int) == 1) = false := by rw [beq_eq_false_iff_ne]; omega
        have HO := hid hone
        clear hone
        go_wp2_with fail
        go_ret
        exact ⟨ret_bool (setd_end' HK.out HO.out).symm, HBL.out⟩
end Go.Proofs.Qxb6629213aDoor
