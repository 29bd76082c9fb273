import Derived.Test.Qxb6629213aDoorW10
namespace Go.Proofs.Qxb6629213aDoor
open Go.RowKit
set_option linter.unusedVariables false
set_option linter.unusedSimpArgs false

/-- What the guard says: false, or that all is small. -/
def BytesPost5 (cs : List Cd) (s : Sd) (w : World) (e : Ending) (w' : World) : Prop := ∃ b, e = .returned (.bool b) ∧ Below w.heap.size w w' ∧ (b = true → cs.length ≤ 1048576 ∧ (∀ d ∈ cs, CdSmall d) ∧ SdSmall s)
theorem BytesPost5.no (cs : List Cd) (s : Sd) (w : World) (o : Obj) : BytesPost5 cs s w (.returned (.bool false)) (w.alloc o) := ⟨false, rfl, (Below.refl _ _).alloc (Nat.le_refl _) _, fun h => by cases h⟩
theorem BytesPost5.yes {cs : List Cd} {s : Sd} (w : World) (o : Obj) {k : Nat} (hl : cs.length ≤ 1048576) (hk : ¬ k < cs.length) (h : ∀ d ∈ cs.take k, CdSmall d) (hs : (s.ns.length : Int) ≤ 1048576) : BytesPost5 cs s w (.returned (.bool true)) (w.alloc o) :=
  ⟨true, rfl, (Below.refl _ _).alloc (Nat.le_refl _) _, fun _ => ⟨hl, by rwa [List.take_of_length_le (by omega)] at h, by unfold SdSmall; omega⟩⟩

set_option maxRecDepth 100000 in
set_option maxHeartbeats 16000000 in
theorem zzbytesInsert_any (cs : List Cd) (ao : Option Addr) (c : Nat) (x y : Int) (ad : Sd) (nao0 : Option Addr) (nc0 : Nat) (w : World) (hok : SlOk ao cs.length c) (hn : CdsAt w 0 ao cs) (hok0 : SlOk nao0 ad.ns.length nc0) (hn0 : NdsAt w 0 nao0 ad.ns) :
    Calls Tryd.prog 5 #[.slice ao cs.length c, .int .i64 x, .int .i64 y, .agg #[.int .i64 ad.i, .int .i64 ad.f, .int .i64 ad.t, .int .i64 ad.r, .slice nao0 ad.ns.length nc0, .int .u64 ad.o]] w fun e w' => BytesPost5 cs ad w e w' := by
  obtain ⟨ho1, ho2, ho3⟩ := hok
  unfold maxLen at ho2
  obtain ⟨po1, po2, po3⟩ := hok0
  unfold maxLen at po2
  by_cases hlen : cs.length ≤ 1048576
  · go_enter Tryd.func5, Tryd.ntmps5
    go_wp2_with fail
    go_loop [9, 10] (fun z i => ∃ (n k : Nat), z = .int .i64 n ∧ n ≤ 1048576 ∧ k ≤ cs.length ∧ i = .int .i64 k ∧ ∀ d ∈ cs.take k, CdSmall d) (fun _ i => cs.length - (intOf i).toNat)
    case atStart => exact ⟨cs.length, 0, by go_num, by omega, Nat.zero_le _, rfl, fun d hd => by simp at hd⟩
    case round =>
      obtain ⟨z, k, rfl, hz, hk, rfl, hsm⟩ := hrel
      have HSM := hid hsm
      clear hsm
      by_cases hlt : k < cs.length
      · obtain ⟨d, hd, -⟩ := get_lt hlt
        obtain ⟨b, o, he, -, h1, sao, sc, h2, ⟨so1, so2, so3⟩, hss⟩ := hn k d hd
        cases he
        unfold maxLen at so2
        have hbw : b < w.heap.size := World.block_lt_of_cell? w _ h1
        have HD := hid hd
        clear hd
        go_wp2_with fail
        all_goals first
          | (go_ret; exact BytesPost5.no cs ad w _)
          | skip
        have hn1 : (d.n.size : Int) ≤ 1048576 := by assumption
        have hn2 : (d.ss.length : Int) ≤ 1048576 := by assumption
        have hz2 : (z : Int) + d.n.size + d.ss.length ≤ 1048576 := by assumption
        go_loop [9, 11] (fun z i => ∃ (n j : Nat), z = .int .i64 n ∧ n ≤ 1048576 ∧ j ≤ d.ss.length ∧ i = .int .i64 j ∧ ∀ s ∈ d.ss.take j, SdSmall s) (fun _ i => d.ss.length - (intOf i).toNat)
        case atStart => exact ⟨z + d.n.size + d.ss.length, 0, by go_num, by omega, Nat.zero_le _, rfl, fun d hd => by simp at hd⟩
        case round =>
          obtain ⟨z2, j, rfl, hz3, hj, rfl, hsm⟩ := hrel
          have HSS := hid hsm
          clear hsm hz2
          by_cases hjl : j < d.ss.length
          · obtain ⟨s, hs, -⟩ := get_lt hjl
            obtain ⟨sb, so, he, -, q1, q2, q3, q4, ⟨nao, nc, q5, ⟨no1, no2, no3⟩, q7⟩, q8⟩ := hss j s hs
            cases he
            unfold maxLen at no2
            have hsw : sb < w.heap.size := World.block_lt_of_cell? w _ q1
            have HS := hid hs
            clear hs
            go_wp2_with fail
            all_goals first
              | (go_ret; exact BytesPost5.no cs ad w _)
              | skip
            have hm1 : (s.ns.length : Int) ≤ 1048576 := by assumption
            have hm2 : (z2 : Int) + s.ns.length ≤ 1048576 := by assumption
            go_loop [9, 12] (fun z i => ∃ (n m : Nat), z = .int .i64 n ∧ n ≤ 1048576 ∧ m ≤ s.ns.length ∧ i = .int .i64 m) (fun _ i => s.ns.length - (intOf i).toNat)
            case atStart => exact ⟨z2 + s.ns.length, 0, by go_num, by omega, Nat.zero_le _, rfl⟩
            case round =>
              obtain ⟨z4, m, rfl, hz4, hm, rfl⟩ := hrel
              clear hm2
              by_cases hml : m < s.ns.length
              · obtain ⟨n, hnn, -⟩ := get_lt hml
                obtain ⟨nb, no, he, -, r1, r2, r3, r4⟩ := q7 m n hnn
                cases he
                have hnw : nb < w.heap.size := World.block_lt_of_cell? w _ r1
                clear hnn
                go_wp2_with fail
                all_goals first
                  | (go_ret; exact BytesPost5.no cs ad w _)
                  | skip
                have hzz : (z4 : Int) + n.h.size + n.a.size + n.r.size + n.l.size ≤ 1048576 := by assumption
                go_round
                case rel => exact ⟨z4 + n.h.size + n.a.size + n.r.size + n.l.size, m + 1, by go_num, by omega, by omega, by go_num⟩
                case measure => simp [intOf]; omega
              · go_wp2_with fail
                go_round
                case rel => exact ⟨z4, j + 1, rfl, hz4, by omega, by go_num, smallS_snoc HS.out HSS.out (by omega)⟩
                case measure => simp [intOf]; omega
          · go_wp2_with fail
            go_round
            case rel =>
              refine ⟨z2, k + 1, rfl, hz3, by omega, by go_num, small_snoc HD.out HSM.out (by omega) (by omega) ?_⟩
              have := HSS.out
              rwa [show j = d.ss.length by omega] at this
            case measure => simp [intOf]; omega
      · go_wp2_with fail
        all_goals first
          | (go_ret; exact BytesPost5.no cs ad w _)
          | skip
        have hm1 : (ad.ns.length : Int) ≤ 1048576 := by assumption
        have hm2 : (z : Int) + ad.ns.length ≤ 1048576 := by assumption
        go_loop [9, 13] (fun z i => ∃ (n m : Nat), z = .int .i64 n ∧ n ≤ 1048576 ∧ m ≤ ad.ns.length ∧ i = .int .i64 m) (fun _ i => ad.ns.length - (intOf i).toNat)
        case atStart => exact ⟨z + ad.ns.length, 0, by go_num, by omega, Nat.zero_le _, rfl⟩
        case round =>
          obtain ⟨z4, m, rfl, hz4, hm, rfl⟩ := hrel
          clear hm2
          by_cases hml : m < ad.ns.length
          · obtain ⟨n, hnn, -⟩ := get_lt hml
            obtain ⟨nb, no, he, -, r1, r2, r3, r4⟩ := hn0 m n hnn
            cases he
            have hnw : nb < w.heap.size := World.block_lt_of_cell? w _ r1
            clear hnn
            go_wp2_with fail
            all_goals first
              | (go_ret; exact BytesPost5.no cs ad w _)
              | skip
            have hzz : (z4 : Int) + n.h.size + n.a.size + n.r.size + n.l.size ≤ 1048576 := by assumption
            go_round
            case rel => exact ⟨z4 + n.h.size + n.a.size + n.r.size + n.l.size, m + 1, by go_num, by omega, by omega, by go_num⟩
            case measure => simp [intOf]; omega
          · go_wp2_with fail
            go_ret
            exact BytesPost5.yes w _ hlen hlt HSM.out hm1
  · go_enter Tryd.func5, Tryd.ntmps5
    go_wp2_with fail
    go_ret
    exact BytesPost5.no cs ad w _
end Go.Proofs.Qxb6629213aDoor
