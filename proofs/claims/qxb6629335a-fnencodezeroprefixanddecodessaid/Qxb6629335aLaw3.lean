import Derived.Test.Qxb6629335aDiv
import Derived.Laws.CopyOwn
import Derived.ProofKit
import Derived.OpenShut
import Derived.ShutString
import Derived.ChangeOld
import Derived.Below
namespace Go.Proofs.Qxb6629335a
open Go.RowKit
set_option linter.unusedVariables false
set_option linter.unusedSimpArgs false

def IsRow (k : IntKind) (w : World) (a : Option Addr) (len cap : Nat) (zs : List Int) : Prop :=
  (a = none ∧ len = 0 ∧ cap = 0 ∧ zs = []) ∨
  ∃ x, a = some x ∧ len ≤ cap ∧ cap ≤ maxLen ∧ zs.length = cap ∧ (∀ i, i < zs.length → w.cell? (x.add i) = some (.int k (zs.getD i 0))) ∧ ∀ n ∈ zs, (Lit.int k n).wf = true

theorem zzBytes5_any (ao : Option Addr) (n c : Nat) (hn : n ≤ maxLen) (w : World) : Calls Try.prog 5 #[.slice ao n c] w fun e w' => (∃ b : Bool, e = .returned (.bool b)) ∧ w' = w := by
  unfold maxLen at hn
  by_cases h : n ≤ 1048576
  · go_enter Try.func5, Try.ntmps5
    go_wp2_with fail
    go_ret
    exact ⟨⟨_, rfl⟩, rfl⟩
  · go_enter Try.func5, Try.ntmps5
    go_wp2_with fail
    go_ret
    exact ⟨⟨_, rfl⟩, rfl⟩

theorem u8_lt {n : Int} (h : (Lit.int .u8 n).wf = true) : ∃ m : Nat, m < 256 ∧ n = (m : Int) := by
  simp [Lit.wf] at h
  have e1 : IntKind.u8.min = 0 := rfl
  have e2 : IntKind.u8.max = 255 := rfl
  rw [e1, e2] at h
  exact ⟨n.toNat, by omega, by omega⟩
/-- The bytes of a slice that came in. -/
theorem bytes_of {w : World} {x : Addr} {cap len : Nat} {zs : List Int} (hl : len ≤ cap) (hz : zs.length = cap) (hc : ∀ i, i < zs.length → w.cell? (x.add i) = some (.int .u8 (zs.getD i 0))) (hw : ∀ n ∈ zs, (Lit.int .u8 n).wf = true) :
    ∃ xs : List Nat, xs.length = len ∧ (∀ y ∈ xs, y < 256) ∧ ∀ j y, xs[j]? = some y → w.cell? (x.add j) = some (vI y) := by
  refine ⟨(zs.take len).map Int.toNat, by simp; omega, ?_, ?_⟩
  · intro y hy
    obtain ⟨n, hn, rfl⟩ := List.mem_map.1 hy
    obtain ⟨m, hm, rfl⟩ := u8_lt (hw n (List.mem_of_mem_take hn))
    simpa using hm
  · intro j y hy
    rw [List.getElem?_map] at hy
    obtain ⟨n, hn, rfl⟩ := Option.map_eq_some_iff.1 hy
    have hj : j < len := by have := (List.getElem?_eq_some_iff.1 hn).1; simp at this; omega
    rw [List.getElem?_take, if_pos hj] at hn
    have hm := List.mem_of_getElem? hn
    rw [hc j (by omega), List.getD_eq_getElem?_getD, hn]
    obtain ⟨m, _, rfl⟩ := u8_lt (hw n hm)
    simp [vI]

set_option maxHeartbeats 1000000 in
theorem law3_walk (a0 : Option Addr) (len0 cap0 : Nat) (z0 : List Int) (w : World) (w0 : IsRow .u8 w a0 len0 cap0 z0) :
    Calls Try.prog 3 #[.slice a0 len0 cap0] w fun e w' => e = .returned (.bool true) ∧ Below w.heap.size w w' := by
  rcases w0 with ⟨rfl, rfl, rfl, rfl⟩ | ⟨x, rfl, hl, hm, hz, hc, hw⟩
  · go_enter Try.func3, Try.ntmps3
    go_wp2_with fail
    refine (zzBytes5_any _ _ _ (by unfold maxLen; omega) _).mono ?_
    rintro e wq ⟨⟨b, rfl⟩, rfl⟩
    cases b with
    | false =>
      go_wp2_with fail
      go_ret
      exact ⟨rfl, Below.refl _ _⟩
    | true =>
      go_wp2_with fail
      refine (encode_any [] none 0 _ ⟨Nat.le_refl _, by unfold maxLen; omega, fun _ => ⟨rfl, rfl⟩⟩ (fun k x hx => by cases hx) (fun x hx => by cases hx) (by simp)).mono ?_
      rintro e w1 ⟨rfl, hb1⟩
      go_wp2_with fail
      refine (divModel_any [] none 0 _ ⟨Nat.le_refl _, by unfold maxLen; omega, fun _ => ⟨rfl, rfl⟩⟩ (fun k x hx => by cases hx) (fun x hx => by cases hx) (by simp)).mono ?_
      rintro e w2 ⟨rfl, hb2⟩
      go_wp2_with fail
      go_ret
      exact ⟨rfl, bt hb1 hb2⟩
  · have hm' := hm
    unfold maxLen at hm'
    obtain ⟨xs, rfl, hlt, hcell⟩ := bytes_of hl hz hc hw
    have HC := hid hcell
    have HLT := hid hlt
    clear hc hw hcell hlt hz
    by_cases h4 : xs.length ≤ 4096
    · go_enter Try.func3, Try.ntmps3
      go_wp2_with fail
      refine (zzBytes5_any _ _ _ (by omega) _).mono ?_
      rintro e wq ⟨⟨b, rfl⟩, rfl⟩
      cases b with
      | false =>
        go_wp2_with fail
        go_ret
        exact ⟨rfl, Below.refl _ _⟩
      | true =>
        obtain ⟨vs, HVS⟩ : ∃ vs, Hid (vs = xs.map vI) := ⟨_, rfl⟩
        have HVL := hid (show vs.length = xs.length by rw [HVS.out]; simp)
        go_wp2_with (at_make; refine make_row rfl _ _ 22 rfl 5 _ 1 1 Try.underlying22 info5 _ _ _ _ xs.length rfl rfl ?b0 ?b1 ?b2 ?b3 ?_)
        case b0 => omega
        case b1 => omega
        case b2 => omega
        case b3 => unfold maxLen; omega
        intro w1 cur1 hcur1 hcs1 hb1
        have HP1 := hid (show ∀ j v, vs[j]? = some v → w1.cell? (x.add j) = some v from fun j v hv => by
          rw [HVS.out, List.getElem?_map] at hv
          obtain ⟨y, hy, rfl⟩ := Option.map_eq_some_iff.1 hv
          exact cell_later hb1 (HC.out j y hy))
        have HP2 := hid (show 0 + vs.length ≤ cur1.toList.length by rw [HVL.out]; simp [hcs1])
        have HP3 := hid (show ∀ v ∈ vs, v.oneCell' = true by rw [HVS.out]; intro v hv; obtain ⟨y, _, rfl⟩ := List.mem_map.1 hv; rfl)
        have HP4 := hid (show vs.length = Nat.min xs.length xs.length by rw [HVL.out]; exact (Nat.min_self _).symm)
        go_wp2_with (refine wpList_copy_splice rfl _ _ 22 22 rfl 5 Try.underlying22 (by kernel_rfl) _ _ _ _ _ _ rfl rfl wq.heap.size 0 cur1.toList 5 hcur1 vs HP4.out (fun _ => ⟨rfl, x, rfl, HP1.out⟩) HP2.out HP3.out wq.heap.size wq hb1 (Nat.le_refl _) ?_; intro w2 hg2 hb2)
        have hbs : BsAt w2 (some ⟨wq.heap.size, 0, none⟩) xs := by
          intro k y hy
          refine ⟨_, _, rfl, ?_⟩
          have hk := (List.getElem?_eq_some_iff.1 hy).1
          rw [cell_of_row _ _ _ _ _ _ hg2.out]
          have e1 : splice cur1.toList 0 vs = vs := by
            unfold splice
            rw [List.drop_eq_nil_of_le (by rw [HVL.out]; simp [hcs1])]
            simp
          rw [e1, HVS.out]
          simp [hy, vI]
        have hok : SlOk (some ⟨wq.heap.size, 0, none⟩) xs.length xs.length := ⟨Nat.le_refl _, by omega, fun h => by cases h⟩
        go_wp2_with fail
        refine (encode_any xs _ _ _ hok hbs HLT.out (by omega)).mono ?_
        rintro e w3 ⟨rfl, hb3⟩
        go_wp2_with fail
        refine (divModel_any xs _ _ _ hok (hbs.keep hb3) HLT.out (by omega)).mono ?_
        rintro e w4 ⟨rfl, hb4⟩
        go_wp2_with fail
        go_ret
        exact ⟨rfl, bt hb2 (bt hb3 hb4)⟩
    · go_enter Try.func3, Try.ntmps3
      go_wp2_with fail
      refine (zzBytes5_any _ _ _ (by omega) _).mono ?_
      rintro e wq ⟨⟨b, rfl⟩, rfl⟩
      cases b with
      | false =>
        go_wp2_with fail
        go_ret
        exact ⟨rfl, Below.refl _ _⟩
      | true =>
        go_wp2_with fail
        go_ret
        exact ⟨rfl, Below.refl _ _⟩
end Go.Proofs.Qxb6629335a
