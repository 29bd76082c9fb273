import Derived.Test.Qxb6629213aDoorW1
namespace Go.Proofs.Qxb6629213aDoor
open Go.RowKit
set_option linter.unusedVariables false
set_option linter.unusedSimpArgs false

theorem small_snoc {cs : List Cd} {k : Nat} {d : Cd} (hd : cs[k]? = some d) (h : ∀ c ∈ cs.take k, CdSmall c) (h1 : d.n.size ≤ 1048576) (h2 : d.ss.length ≤ 1048576) (h3 : ∀ s ∈ d.ss.take d.ss.length, SdSmall s) : ∀ c ∈ cs.take (k + 1), CdSmall c := by
  intro c hc
  rw [List.take_add_one, hd] at hc
  rcases List.mem_append.1 hc with hc | hc
  · exact h c hc
  · simp at hc
    subst hc
    rw [List.take_length] at h3
    exact ⟨h1, h2, h3⟩
theorem smallS_snoc {ss : List Sd} {k : Nat} {d : Sd} (hd : ss[k]? = some d) (h : ∀ c ∈ ss.take k, SdSmall c) (h1 : d.ns.length ≤ 1048576) : ∀ c ∈ ss.take (k + 1), SdSmall c := by
  intro c hc
  rw [List.take_add_one, hd] at hc
  rcases List.mem_append.1 hc with hc | hc
  · exact h c hc
  · simp at hc
    subst hc
    exact h1

/-- What the guard says: false, or that all is small. -/
def BytesPost (cs : List Cd) (w : World) (e : Ending) (w' : World) : Prop := ∃ b, e = .returned (.bool b) ∧ w' = w ∧ (b = true → cs.length ≤ 1048576 ∧ ∀ d ∈ cs, CdSmall d)
theorem BytesPost.no (cs : List Cd) (w : World) : BytesPost cs w (.returned (.bool false)) w := ⟨false, rfl, rfl, fun h => by cases h⟩
theorem BytesPost.yes {cs : List Cd} (w : World) {k : Nat} (hl : cs.length ≤ 1048576) (hk : ¬ k < cs.length) (h : ∀ d ∈ cs.take k, CdSmall d) : BytesPost cs w (.returned (.bool true)) w :=
  ⟨true, rfl, rfl, fun _ => ⟨hl, by rwa [List.take_of_length_le (by omega)] at h⟩⟩

set_option maxRecDepth 100000 in
set_option maxHeartbeats 8000000 in
theorem zzbytesRepair_any (cs : List Cd) (ao : Option Addr) (c : Nat) (x y : Int) (w : World) (hok : SlOk ao cs.length c) (hn : CdsAt w 0 ao cs) :
    Calls Tryd.prog 16 #[.slice ao cs.length c, .int .i64 x, .int .i64 y] w fun e w' => BytesPost cs w e w' := by
  obtain ⟨ho1, ho2, ho3⟩ := hok
  unfold maxLen at ho2
  by_cases hlen : cs.length ≤ 1048576
  · go_enter Tryd.func16, Tryd.ntmps16
    go_wp2_with fail
    go_loop [7, 8] (fun z i => ∃ (n k : Nat), z = .int .i64 n ∧ n ≤ 1048576 ∧ k ≤ cs.length ∧ i = .int .i64 k ∧ ∀ d ∈ cs.take k, CdSmall d) (fun _ i => cs.length - (intOf i).toNat)
    case atStart => exact ⟨cs.length, 0, by go_num, by omega, Nat.zero_le _, rfl, fun d hd => by simp at hd⟩
    case round =>
      obtain ⟨z, k, rfl, hz, hk, rfl, hsm⟩ := hrel
      have HSM := hid hsm
      clear hsm
      by_cases hlt : k < cs.length
      · obtain ⟨d, hd, -⟩ := get_lt hlt
        obtain ⟨b, o, he, -, h1, sao, sc, h2, ⟨so1, so2, so3⟩, hss⟩ := hn k d hd
        cases he
        unfold maxLen at so2
        have HD := hid hd
        clear hd
        go_wp2_with fail
        all_goals first
          | (go_ret; exact BytesPost.no cs w)
          | skip
        have hn1 : (d.n.size : Int) ≤ 1048576 := by assumption
        have hn2 : (d.ss.length : Int) ≤ 1048576 := by assumption
        have hz2 : (z : Int) + d.n.size + d.ss.length ≤ 1048576 := by assumption
        go_loop [7, 9] (fun z i => ∃ (n j : Nat), z = .int .i64 n ∧ n ≤ 1048576 ∧ j ≤ d.ss.length ∧ i = .int .i64 j ∧ ∀ s ∈ d.ss.take j, SdSmall s) (fun _ i => d.ss.length - (intOf i).toNat)
        case atStart => exact ⟨z + d.n.size + d.ss.length, 0, by go_num, by omega, Nat.zero_le _, rfl, fun d hd => by simp at hd⟩
        case round =>
          obtain ⟨z2, j, rfl, hz3, hj, rfl, hsm⟩ := hrel
          have HSS := hid hsm
          clear hsm hz2
          by_cases hjl : j < d.ss.length
          · obtain ⟨s, hs, -⟩ := get_lt hjl
            obtain ⟨sb, so, he, -, q1, q2, q3, q4, ⟨nao, nc, q5, ⟨no1, no2, no3⟩, q7⟩, q8⟩ := hss j s hs
            cases he
            unfold maxLen at no2
            have HS := hid hs
            clear hs
            go_wp2_with fail
            all_goals first
              | (go_ret; exact BytesPost.no cs w)
              | skip
            have hm1 : (s.ns.length : Int) ≤ 1048576 := by assumption
            have hm2 : (z2 : Int) + s.ns.length ≤ 1048576 := by assumption
            go_loop [7, 10] (fun z i => ∃ (n m : Nat), z = .int .i64 n ∧ n ≤ 1048576 ∧ m ≤ s.ns.length ∧ i = .int .i64 m) (fun _ i => s.ns.length - (intOf i).toNat)
            case atStart => exact ⟨z2 + s.ns.length, 0, by go_num, by omega, Nat.zero_le _, rfl⟩
            case round =>
              obtain ⟨z4, m, rfl, hz4, hm, rfl⟩ := hrel
              clear hm2
              by_cases hml : m < s.ns.length
              · obtain ⟨n, hn0, -⟩ := get_lt hml
                obtain ⟨nb, no, he, -, r1, r2, r3, r4⟩ := q7 m n hn0
                cases he
                clear hn0
                go_wp2_with fail
                all_goals first
                  | (go_ret; exact BytesPost.no cs w)
                  | skip
                have hzz : (z4 : Int) + n.h.size + n.a.size + n.r.size + n.l.size ≤ 1048576 := by assumption
                go_round
                case rel => exact ⟨z4 + n.h.size + n.a.size + n.r.size + n.l.size, m + 1, by go_num, by omega, by omega, by go_num⟩
                case measure => simp [intOf]; omega
              · go_wp2_with fail
                go_round
                case rel => exact ⟨z4, j + 1, rfl, hz4, by omega, by go_num, smallS_snoc HS.out HSS.out (by omega)⟩
                case measure => simp [intOf]; omega
          · go_wp2_with fail
            go_round
            case rel =>
              refine ⟨z2, k + 1, rfl, hz3, by omega, by go_num, small_snoc HD.out HSM.out (by omega) (by omega) ?_⟩
              have := HSS.out
              rwa [show j = d.ss.length by omega] at this
            case measure => simp [intOf]; omega
      · go_wp2_with fail
        go_ret
        exact BytesPost.yes w hlen hlt HSM.out
  · go_enter Tryd.func16, Tryd.ntmps16
    go_wp2_with fail
    go_ret
    exact BytesPost.no cs w
end Go.Proofs.Qxb6629213aDoor
