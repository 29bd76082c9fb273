import Derived.Test.Qxb6629213aDoorW1
import Derived.Deep.QuietTactic
import Derived.BigQuiet
namespace Go.Proofs.Qxb6629213aDoor
open Go.RowKit
set_option linter.unusedVariables false
set_option linter.unusedSimpArgs false

/-- A list of strings behind a slice. -/
def StrsAt (w : World) (ao : Option Addr) (xs : List ByteArray) : Prop := ∀ k s, xs[k]? = some s → ∃ b o, ao = some ⟨b, o, none⟩ ∧ w.cell? ⟨b, o + k, none⟩ = some (.string s)

theorem StrsAt.keep {w w' : World} {ao : Option Addr} {xs : List ByteArray} (hb : Below w.heap.size w w') (h : StrsAt w ao xs) : StrsAt w' ao xs := fun k s hs => by
  obtain ⟨b, o, e, hc⟩ := h k s hs
  exact ⟨b, o, e, cell_later hb hc⟩

set_option maxHeartbeats 1000000 in
theorem equal_true (xs : List ByteArray) (n : Nat) (ao bo : Option Addr) (c c' : Nat) (w : World) (hl : xs.length = n) (hok : SlOk ao n c) (hok' : SlOk bo n c') (ha : StrsAt w ao xs) (hb : StrsAt w bo xs) :
    Calls Tryd.prog 14 #[.slice ao n c, .slice bo n c'] w fun e w' => e = .returned (.bool true) ∧ ∃ m, w' = w.drewN m := by
  obtain ⟨ho1, ho2, ho3⟩ := hok
  obtain ⟨ho1', ho2', ho3'⟩ := hok'
  unfold maxLen at ho2 ho2'
  have HL := hid hl
  clear hl
  go_enter Tryd.func14, Tryd.ntmps14
  go_wp2_with fail
  go_loopw [13] (fun i wr => ∃ k m : Nat, k ≤ n ∧ i = .int .i64 k ∧ wr = w.drewN m) (fun i _ => n - (intOf i).toNat)
  case atStart => exact ⟨0, 0, Nat.zero_le _, rfl, rfl⟩
  case round =>
    obtain ⟨k, m, hk, rfl, rfl⟩ := hrel
    by_cases hlt : k < n
    · obtain ⟨s, hs, -⟩ := get_lt (show k < xs.length by rw [HL.out]; exact hlt)
      obtain ⟨b1, o1, he1, q1⟩ := ha k s hs
      obtain ⟨b2, o2, he2, q2⟩ := hb k s hs
      cases he1
      cases he2
      go_wp2_with fail
      go_quiet (fail)
      go_wp2_with fail
      go_roundw
      case rel => exact ⟨k + 1, _, by omega, by go_num, rfl⟩
      case measure => simp [intOf]; omega
    · go_wp2_with fail
      go_ret
      exact ⟨rfl, m, rfl⟩

theorem StrsAt.take {w : World} {ao : Option Addr} {xs : List ByteArray} {n : Nat} (h : StrsAt w ao xs) : StrsAt w ao (xs.take n) := fun k s hs => by
  rw [List.getElem?_take] at hs
  split at hs
  · exact h k s hs
  · cases hs
theorem SlOk.cut {ao : Option Addr} {n k c : Nat} (h : SlOk ao n c) (hk : k ≤ n) : SlOk ao k c := ⟨Nat.le_trans hk h.1, h.2.1, fun e => by have := h.2.2 e; omega⟩

set_option maxHeartbeats 1000000 in
theorem isPrefix_true (xs : List ByteArray) (n k : Nat) (po ao : Option Addr) (c c' : Nat) (w : World) (hl : xs.length = n) (hk : k ≤ n) (hok : SlOk po k c) (hok' : SlOk ao n c') (ha : StrsAt w po (xs.take k)) (hb : StrsAt w ao xs) :
    Calls Tryd.prog 12 #[.slice po k c, .slice ao n c'] w fun e w' => e = .returned (.bool true) ∧ ∃ m, w' = w.drewN m := by
  have hcut := hok'.cut hk
  have hlen : (xs.take k).length = k := by simp; omega
  have HE := hid (equal_true (xs.take k) k po ao c c' w hlen hok hcut ha hb.take)
  clear hlen hcut
  obtain ⟨ho1, ho2, ho3⟩ := hok
  obtain ⟨ho1', ho2', ho3'⟩ := hok'
  unfold maxLen at ho2 ho2'
  clear hl ha hb
  go_enter Tryd.func12, Tryd.ntmps12
  go_wp2_with fail
  refine HE.out.mono ?_
  rintro e w' ⟨rfl, m, rfl⟩
  go_wp2_with fail
  go_ret
  exact ⟨rfl, m, rfl⟩
end Go.Proofs.Qxb6629213aDoor
