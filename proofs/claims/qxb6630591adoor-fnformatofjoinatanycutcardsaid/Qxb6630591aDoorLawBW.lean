import Derived.Test.Qxb6630591aDoorLawB
namespace Go.Proofs.Qxb6630591aDoor
open Go.RowKit
set_option linter.unusedVariables false
set_option linter.unusedSimpArgs false

theorem lawB_long (a0 : Option Addr) (n cap0 : Nat) (k : Int) (w : World) (hn : n ≤ maxLen) (h : 131072 < n) :
    Calls Tryd.prog 4 #[.slice a0 n cap0, .int .i64 k] w fun e w' => e = .returned (.bool true) ∧ Below w.heap.size w w' := by
  have hn' := hn
  unfold maxLen at hn'
  go_enter Tryd.func4, Tryd.ntmps4
  go_wp2_with fail
  refine (bytesB_any _ _ _ _ hn _).mono ?_
  rintro e wq ⟨⟨bb, rfl⟩, rfl⟩
  cases bb with
  | false =>
    go_wp2_with fail
    go_ret
    exact ⟨rfl, Below.refl _ _⟩
  | true =>
    go_wp2_with fail
    go_ret
    exact ⟨rfl, Below.refl _ _⟩
theorem lawB_neg (a0 : Option Addr) (n cap0 : Nat) (k : Int) (w : World) (hn : n ≤ maxLen) (h : n ≤ 131072) (hk : k < 0) :
    Calls Tryd.prog 4 #[.slice a0 n cap0, .int .i64 k] w fun e w' => e = .returned (.bool true) ∧ Below w.heap.size w w' := by
  have hn' := hn
  unfold maxLen at hn'
  go_enter Tryd.func4, Tryd.ntmps4
  go_wp2_with fail
  refine (bytesB_any _ _ _ _ hn _).mono ?_
  rintro e wq ⟨⟨bb, rfl⟩, rfl⟩
  cases bb with
  | false =>
    go_wp2_with fail
    go_ret
    exact ⟨rfl, Below.refl _ _⟩
  | true =>
    go_wp2_with fail
    go_ret
    exact ⟨rfl, Below.refl _ _⟩
theorem lawB_past (a0 : Option Addr) (n cap0 : Nat) (k : Int) (w : World) (hn : n ≤ maxLen) (h : n ≤ 131072) (hk0 : 0 ≤ k) (hk : (n : Int) < k) :
    Calls Tryd.prog 4 #[.slice a0 n cap0, .int .i64 k] w fun e w' => e = .returned (.bool true) ∧ Below w.heap.size w w' := by
  have hn' := hn
  unfold maxLen at hn'
  have hk1 : ¬ k < 0 := by omega
  go_enter Tryd.func4, Tryd.ntmps4
  go_wp2_with fail
  refine (bytesB_any _ _ _ _ hn _).mono ?_
  rintro e wq ⟨⟨bb, rfl⟩, rfl⟩
  cases bb with
  | false =>
    go_wp2_with fail
    go_ret
    exact ⟨rfl, Below.refl _ _⟩
  | true =>
    go_wp2_with fail
    go_ret
    exact ⟨rfl, Below.refl _ _⟩

theorem lawB_in (xs : List Int) (a0 : Option Addr) (cap0 kk : Nat) (w : World) (hcl : Cloned a0 cap0 xs w) (hin : ∀ x ∈ xs, InI x) (hlen : xs.length ≤ 131072) (htab : Tab w) (hk : kk ≤ xs.length) :
    Calls Tryd.prog 4 #[.slice a0 xs.length cap0, .int .i64 (kk : Int)] w fun e w' => e = .returned (.bool true) ∧ Below w.heap.size w w' := by
  by_cases h0 : kk = 0
  · by_cases hn : kk < xs.length
    · exact lawB_0 xs a0 cap0 kk w hcl hin hlen htab h0 hn
    · exact lawB_0n xs a0 cap0 kk w hcl hin hlen htab h0 hn
  · by_cases hn : kk = xs.length
    · exact lawB_n xs a0 cap0 kk w hcl hin hlen htab (by omega) hn
    · by_cases ho : Opens xs kk
      · exact lawB_apart xs a0 cap0 kk w hcl hin hlen htab (by omega) (by omega) ho
      · exact lawB_run xs a0 cap0 kk w hcl hin hlen htab (by omega) (by omega) ho

theorem lawB_walk (a0 : Option Addr) (len0 cap0 : Nat) (z0 : List Int) (k : Int) (w : World) (w0 : IsRow .i64 w a0 len0 cap0 z0) (htab : Tab w) :
    Calls Tryd.prog 4 #[.slice a0 len0 cap0, .int .i64 k] w fun e w' => e = .returned (.bool true) ∧ Below w.heap.size w w' := by
  have hn : len0 ≤ maxLen := by
    rcases w0 with ⟨_, rfl, _, _⟩ | ⟨x, _, hl, hm, _⟩
    · exact Nat.zero_le _
    · exact Nat.le_trans hl hm
  by_cases h1 : len0 ≤ 131072
  · by_cases h2 : k < 0
    · exact lawB_neg a0 len0 cap0 k w hn h1 h2
    · by_cases h3 : (len0 : Int) < k
      · exact lawB_past a0 len0 cap0 k w hn h1 (by omega) h3
      · obtain ⟨kk, rfl⟩ : ∃ kk : Nat, k = (kk : Int) := ⟨k.toNat, by omega⟩
        rcases w0 with ⟨rfl, rfl, rfl, rfl⟩ | ⟨x, rfl, hl, hm, hz, hc, hw⟩
        · refine lawB_in [] none 0 kk w ?_ (fun x hx => by cases hx) (by simp) htab (by omega)
          refine (clone_nil w).mono ?_
          rintro e w' ⟨rfl, rfl⟩
          exact ⟨none, 0, rfl, ⟨Nat.le_refl _, by unfold maxLen; omega, fun _ => ⟨rfl, rfl⟩⟩, fun k hk => by simp at hk, Below.refl _ _⟩
        · obtain ⟨xs, rfl, hin, hcell⟩ := ints_of hl hz hc hw
          refine lawB_in xs (some x) cap0 kk w ?_ hin h1 htab (by omega)
          refine (clone_row x xs cap0 w hl hm h1 hcell).mono ?_
          rintro e w' ⟨rfl, hat, hb⟩
          exact ⟨_, _, rfl, ⟨Nat.le_refl _, hn, fun h => by cases h⟩, hat, hb⟩
  · exact lawB_long a0 len0 cap0 k w hn (by omega)
end Go.Proofs.Qxb6630591aDoor
