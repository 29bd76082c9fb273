import Derived.Test.Qxb6629213aDoorW1
import Derived.Deep.QuietTactic
import Derived.BigQuiet
namespace Go.Proofs.Qxb6629213aDoor
open Go.RowKit
set_option linter.unusedVariables false
set_option linter.unusedSimpArgs false

def isM (d : Nd) : Bool := d.r.toList == [109, 97, 115, 116, 101, 114]
def isR (d : Nd) : Bool := d.r.toList == [114, 101, 112, 108, 105, 99, 97]
def isU (d : Nd) : Bool := d.l.toList == [117, 112]
def isL (d : Nd) : Bool := isR d && isU d
def cM (ns : List Nd) : Nat := (ns.filter isM).length
def cL (ns : List Nd) : Nat := (ns.filter isL).length
def good (d : Nd) : Bool := isM d || isL d
/-- A shard is settled. -/
def setd (d : Sd) : Bool := d.ns.all good && decide (cM d.ns = 1) && decide ((cL d.ns : Int) = d.r)

theorem cM_le (ns : List Nd) : cM ns ≤ ns.length := List.length_filter_le _ _
theorem cL_le (ns : List Nd) : cL ns ≤ ns.length := List.length_filter_le _ _
theorem take_snoc {α : Type} {l : List α} {k : Nat} {d : α} (h : l[k]? = some d) : l.take (k + 1) = l.take k ++ [d] := by
  rw [List.take_add_one, h]; rfl
theorem cM_snoc (ns : List Nd) (d : Nd) : cM (ns ++ [d]) = cM ns + if isM d then 1 else 0 := by
  unfold cM; rw [List.filter_append]; by_cases h : isM d <;> simp [h]
theorem cL_snoc (ns : List Nd) (d : Nd) : cL (ns ++ [d]) = cL ns + if isL d then 1 else 0 := by
  unfold cL; rw [List.filter_append]; by_cases h : isL d <;> simp [h]
theorem all_snoc (ns : List Nd) (d : Nd) : (ns ++ [d]).all good = (ns.all good && good d) := by simp
theorem not_MR {d : Nd} (h : isM d = true) : isR d = false := by
  unfold isM isR at *
  rw [beq_iff_eq] at h
  rw [h]; rfl

theorem ret_bool {a b : Bool} (h : a = b) : Ending.returned (.bool a) = .returned (.bool b) := by rw [h]
theorem setd_bad {d : Sd} {k : Nat} {n : Nd} (h : (d.ns.take k).all good = true) (hd : d.ns[k]? = some n) (hg : good n = false) : setd d = false := by
  have : d.ns.all good = false := by
    rw [List.all_eq_false]
    exact ⟨n, List.mem_of_getElem? hd, by simp [hg]⟩
  simp [setd, this]
theorem setd_end {d : Sd} {k : Nat} (hk : d.ns.take k = d.ns) (h : (d.ns.take k).all good = true) (ho : cM (d.ns.take k) = 1) : setd d = ((cL (d.ns.take k) : Int) == d.r) := by
  rw [hk] at *
  unfold setd
  rw [h, ho, Bool.eq_iff_iff]
  simp
theorem setd_end' {d : Sd} {k : Nat} (hk : d.ns.take k = d.ns) (ho : ¬ cM (d.ns.take k) = 1) : setd d = false := by
  rw [hk] at ho
  simp [setd, ho]

set_option maxHeartbeats 1000000 in
theorem settled_any (d : Sd) (lo b o : Nat) (w : World) (h : SdAt w lo b o d) (hs : SdSmall d) :
    Calls Tryd.prog 20 #[.pointer (some ⟨b, o, none⟩)] w fun e w' => e = .returned (.bool (setd d)) ∧ Below w.heap.size w w' := by
  obtain ⟨h1, h2, h3, h4, ⟨ao, c, h5, h6, h7⟩, h8⟩ := h
  obtain ⟨ho1, ho2, ho3⟩ := h6
  unfold maxLen at ho2
  unfold SdSmall at hs
  go_enter Tryd.func20, Tryd.ntmps20
  go_wp2_with fail
  go_loopw [12, 3, 4] (fun i m l wr => ∃ k : Nat, k ≤ d.ns.length ∧ i = .int .i64 k ∧ m = .int .i64 (cM (d.ns.take k)) ∧ l = .int .i64 (cL (d.ns.take k)) ∧ (d.ns.take k).all good = true ∧ Below w.heap.size w wr)
    (fun i _ _ _ => d.ns.length - (intOf i).toNat)
  case atStart => exact ⟨0, Nat.zero_le _, rfl, rfl, rfl, rfl, Below.refl _ _⟩
  case round =>
    obtain ⟨k, hk, rfl, rfl, rfl, hall, hbl⟩ := hrel
    have hm := cM_le (d.ns.take k)
    have hl := cL_le (d.ns.take k)
    have hlt' : (d.ns.take k).length ≤ k := List.length_take_le _ _
    by_cases hlt : k < d.ns.length
    · obtain ⟨n, hd, hmem⟩ := get_lt hlt
      obtain ⟨nb, no, he, -, q1, q2, q3, q4⟩ := h7 k n hd
      cases he
      have g1 := cell_later hbl q1
      have g2 := cell_later hbl q2
      have g3 := cell_later hbl q3
      have g4 := cell_later hbl q4
      have HM := hid (show cM (d.ns.take (k + 1)) = cM (d.ns.take k) + if isM n then 1 else 0 by rw [take_snoc hd]; exact cM_snoc _ _)
      have HLL := hid (show cL (d.ns.take (k + 1)) = cL (d.ns.take k) + if isL n then 1 else 0 by rw [take_snoc hd]; exact cL_snoc _ _)
      have HG := hid (show (d.ns.take (k + 1)).all good = ((d.ns.take k).all good && good n) by rw [take_snoc hd]; exact all_snoc _ _)
      have HA := hid hall
      have HB := hid hd
      clear hd hall
      by_cases hM : isM n = true
      · have hM' : (n.r.toList == [109, 97, 115, 116, 101, 114]) = true := hM
        have HMM := hid hM
        clear hM
        go_wp2_with fail
        go_roundw
        case rel => exact ⟨k + 1, by omega, by go_num, by rw [HM.out, if_pos HMM.out]; go_num, by rw [HLL.out, if_neg (by simp [isL, not_MR HMM.out])]; rfl, by rw [HG.out, HA.out, good, HMM.out]; rfl, hbl.alloc (by have := hbl.size; omega) _⟩
        case measure => simp [intOf]; omega
      · have hM' : (n.r.toList == [109, 97, 115, 116, 101, 114]) = false := by simpa [isM] using hM
        have HMM := hid hM
        clear hM
        by_cases hR : isR n = true
        · have hR' : (n.r.toList == [114, 101, 112, 108, 105, 99, 97]) = true := hR
          have HR := hid hR
          clear hR
          by_cases hU : isU n = true
          · have hU' : (n.l.toList == [117, 112]) = true := hU
            have HU := hid hU
            clear hU
            go_wp2_with fail
            go_roundw
            case rel => exact ⟨k + 1, by omega, by go_num, by rw [HM.out, if_neg HMM.out]; rfl, by rw [HLL.out, if_pos (by simp [isL, HR.out, HU.out])]; go_num, by rw [HG.out, HA.out]; simp [good, isL, HR.out, HU.out], hbl.alloc (by have := hbl.size; omega) _⟩
            case measure => simp [intOf]; omega
          · have hU' : (n.l.toList == [117, 112]) = false := by simpa [isU] using hU
            have HU := hid hU
            clear hU
            go_wp2_with fail
            go_ret
            exact ⟨ret_bool (setd_bad HA.out HB.out (by simp [good, isL, HMM.out, HU.out])).symm, hbl.alloc (by have := hbl.size; omega) _⟩
        · have hR' : (n.r.toList == [114, 101, 112, 108, 105, 99, 97]) = false := by simpa [isR] using hR
          have HR := hid hR
          clear hR
          go_wp2_with fail
          go_ret
          exact ⟨ret_bool (setd_bad HA.out HB.out (by simp [good, isL, HMM.out, HR.out])).symm, hbl.alloc (by have := hbl.size; omega) _⟩
    · have g4 := cell_later hbl h4
      have HK := hid (show d.ns.take k = d.ns from List.take_of_length_le (by omega))
      have HA := hid hall
      clear hall
      by_cases hone : cM (d.ns.take k) = 1
      · have hone' : ((cM (d.ns.take k) : Int) == 1) = true := by simp [hone]
        have HO := hid hone
        clear hone
        go_wp2_with fail
        go_ret
        exact ⟨ret_bool (setd_end HK.out HA.out HO.out).symm, hbl⟩
      · have hone' : ((cM (d.ns.take k) : Int) == 1) = false := by rw [beq_eq_false_iff_ne]; omega
        have HO := hid hone
        clear hone
        go_wp2_with fail
        go_ret
        exact ⟨ret_bool (setd_end' HK.out HO.out).symm, hbl⟩
end Go.Proofs.Qxb6629213aDoor
