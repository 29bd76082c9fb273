import Derived.Test.Qxb6629213aDoorW1
namespace Go.Proofs.Qxb6629213aDoor
open Go.RowKit
set_option linter.unusedVariables false
set_option linter.unusedSimpArgs false

set_option maxHeartbeats 1000000 in
theorem shardBytes_any (s : Sd) (ao : Option Addr) (c : Nat) (t : Int) (w : World) (hok : SlOk ao s.ns.length c) (hn : NdsAt w 0 ao s.ns) :
    Calls Tryd.prog 7 #[.agg #[.int .i64 s.i, .int .i64 s.f, .int .i64 s.t, .int .i64 s.r, .slice ao s.ns.length c, .int .u64 s.o], .int .i64 t] w fun e w' => ∃ t', e = .returned (.int .i64 t') ∧ Below w.heap.size w w' := by
  obtain ⟨ho1, ho2, ho3⟩ := hok
  unfold maxLen at ho2
  go_enter Tryd.func7, Tryd.ntmps7
  go_wp2_with fail
  go_loopw [1, 12] (fun v i wr => ∃ (t : Int) (k : Nat), v = .int .i64 t ∧ k ≤ s.ns.length ∧ i = .int .i64 k ∧ Below (w.heap.size + 1) (w.alloc (Obj.cells #[.int .i64 s.i, .int .i64 s.f, .int .i64 s.t, .int .i64 s.r, .slice ao s.ns.length c, .int .u64 s.o] 26)) wr)
    (fun _ i _ => s.ns.length - (intOf i).toNat)
  case atStart => exact ⟨_, 0, rfl, Nat.zero_le _, rfl, Below.refl _ _⟩
  case round =>
    obtain ⟨t, k, rfl, hk, rfl, hbl⟩ := hrel
    have hbw : Below w.heap.size w wr := ((Below.refl _ _).alloc (Nat.le_refl _) _).trans (hbl.mono (by omega))
    have hA : ∀ o, wr.cell? ⟨w.heap.size, o, none⟩ = #[Value.int .i64 s.i, .int .i64 s.f, .int .i64 s.t, .int .i64 s.r, .slice ao s.ns.length c, .int .u64 s.o][o]? := fun o => by
      rw [hbl.cell (p := ⟨w.heap.size, o, none⟩) (by show w.heap.size < _; omega), World.cell?_alloc_at _ _ _ _ rfl]
    have HBW := hid hbw
    by_cases hlt : k < s.ns.length
    · obtain ⟨d, hd, -⟩ := get_lt hlt
      obtain ⟨b, o, he, -, h1, h2, h3, h4⟩ := hn k d hd
      cases he
      have g1 := cell_later hbw h1
      have g2 := cell_later hbw h2
      have g3 := cell_later hbw h3
      have g4 := cell_later hbw h4
      clear hbw
      by_cases htt : 1048576 < t
      · go_wp2_with fail
        go_ret
        exact ⟨_, rfl, HBW.out⟩
      · go_wp2_with fail
        go_roundw
        case rel => exact ⟨_, k + 1, rfl, by omega, by go_num, hbl.alloc (by have := hbl.size; simp at this; omega) _⟩
        case measure => simp [intOf]; omega
    · clear hbw
      go_wp2_with fail
      go_ret
      exact ⟨_, rfl, HBW.out⟩

set_option maxHeartbeats 1000000 in
theorem clustersBytes_any (cs : List Cd) (ao : Option Addr) (c : Nat) (t : Int) (w : World) (hok : SlOk ao cs.length c) (hn : CdsAt w 0 ao cs) :
    Calls Tryd.prog 6 #[.slice ao cs.length c, .int .i64 t] w fun e w' => ∃ t', e = .returned (.int .i64 t') ∧ Below w.heap.size w w' := by
  obtain ⟨ho1, ho2, ho3⟩ := hok
  unfold maxLen at ho2
  go_enter Tryd.func6, Tryd.ntmps6
  go_wp2_with fail
  go_loopw [1, 9] (fun v i wr => ∃ (t : Int) (k : Nat), v = .int .i64 t ∧ k ≤ cs.length ∧ i = .int .i64 k ∧ Below w.heap.size w wr) (fun _ i _ => cs.length - (intOf i).toNat)
  case atStart => exact ⟨_, 0, rfl, Nat.zero_le _, rfl, Below.refl _ _⟩
  case round =>
    obtain ⟨t, k, rfl, hk, rfl, hbl⟩ := hrel
    by_cases hlt : k < cs.length
    · obtain ⟨d, hd, -⟩ := get_lt hlt
      obtain ⟨b, o, he, -, h1, sao, sc, h2, ⟨so1, so2, so3⟩, hss⟩ := hn k d hd
      cases he
      have g1 := cell_later hbl h1
      have g2 := cell_later hbl h2
      unfold maxLen at so2
      by_cases htt : 1048576 < t
      · go_wp2_with fail
        go_ret
        exact ⟨_, rfl, hbl⟩
      · go_wp2_with fail
        go_loopw [1, 30] (fun v i wr => ∃ (t : Int) (j : Nat), v = .int .i64 t ∧ j ≤ d.ss.length ∧ i = .int .i64 j ∧ Below w.heap.size w wr) (fun _ i _ => d.ss.length - (intOf i).toNat)
        case atStart => exact ⟨_, 0, rfl, Nat.zero_le _, rfl, hbl⟩
        case round =>
          obtain ⟨t, j, rfl, hj, rfl, hbl⟩ := hrel
          have g1 := cell_later hbl h1
          have g2 := cell_later hbl h2
          by_cases hjl : j < d.ss.length
          · obtain ⟨s, hs, -⟩ := get_lt hjl
            obtain ⟨sb, so, he, -, q1, q2, q3, q4, ⟨nao, nc, q5, q6, q7⟩, q8⟩ := hss j s hs
            cases he
            have p1 := cell_later hbl q1
            have p2 := cell_later hbl q2
            have p3 := cell_later hbl q3
            have p4 := cell_later hbl q4
            have p5 := cell_later hbl q5
            have p8 := cell_later hbl q8
            by_cases htt : 1048576 < t
            · go_wp2_with fail
              go_ret
              exact ⟨_, rfl, hbl⟩
            · go_wp2_with fail
              refine (shardBytes_any s nao nc t wr q6 (q7.keep (Keeps.of_below hbl))).mono ?_
              rintro e w2 ⟨t2, rfl, hb2⟩
              go_wp2_with fail
              go_roundw
              case rel => exact ⟨t2, j + 1, rfl, by omega, by go_num, hbl.trans (hb2.mono hbl.size)⟩
              case measure => simp [intOf]; omega
          · go_wp2_with fail
            go_roundw
            case rel => exact ⟨t, k + 1, rfl, by omega, by go_num, hbl⟩
            case measure => simp [intOf]; omega
    · go_wp2_with fail
      go_ret
      exact ⟨_, rfl, hbl⟩
end Go.Proofs.Qxb6629213aDoor
