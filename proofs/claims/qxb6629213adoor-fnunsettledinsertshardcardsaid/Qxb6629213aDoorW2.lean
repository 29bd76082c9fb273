import Derived.Test.Qxb6629213aDoorW1
import Derived.Deep.RegionWith
import Derived.BigRegion
namespace Go.Proofs.Qxb6629213aDoor
open Go.RowKit
set_option linter.unusedVariables false
set_option linter.unusedSimpArgs false

set_option maxHeartbeats 1000000 in
theorem shards_any (ss : List Sd) (ao : Option Addr) (c : Nat) (w : World) (hok : SlOk ao ss.length c) (hn : SdsAt w 0 ao ss) (hb : ss.length ≤ 1048576) (hbs : ∀ s ∈ ss, SdSmall s) :
    Calls Tryd.prog 17 #[.slice ao ss.length c] w fun e w' => ∃ ao' c', e = .returned (.slice ao' ss.length c') ∧ SdMade w' w.heap.size ao' c' ss ∧ Below w.heap.size w w' := by
  have hnil := fun (w : World) => Lib.run_eql_slice_nil (P := Tryd.prog) w 30 26 ao ss.length c 0 0 Tryd.underlying30
  obtain ⟨ho1, ho2, ho3⟩ := hok
  unfold maxLen at ho2
  cases ao with
  | none =>
    obtain ⟨h0, rfl⟩ := ho3 rfl
    have e0 : ss = [] := List.eq_nil_of_length_eq_zero h0
    clear ho3
    subst e0
    have hnil := fun (w : World) => Lib.run_eql_slice_nil (P := Tryd.prog) w 30 26 none 0 0 0 0 Tryd.underlying30
    show Calls Tryd.prog 17 #[.slice none 0 0] w _
    go_enter Tryd.func17, Tryd.ntmps17
    go_wp2_with fail
    go_ret
    exact ⟨none, 0, rfl, Or.inl ⟨rfl, rfl, rfl⟩, Below.refl _ _⟩
  | some a0 =>
    go_enter Tryd.func17, Tryd.ntmps17
    go_wp2_with (at_make; refine make_row rfl _ _ 38 rfl 41 _ 6 64 Tryd.underlying38 info41 _ _ _ _ ss.length rfl rfl ?b0 ?b1 ?b2 ?b3 ?_)
    case b0 => rfl
    case b1 => rfl
    case b2 => omega
    case b3 => unfold maxLen; omega
    intro w1 cur hcur hcs hbel
    go_wp2_with fail
    go_loopw [12] (fun i wr => ∃ k : Nat, k ≤ ss.length ∧ i = .int .i64 k ∧ (∃ cur : Array Value, wr.heap[w.heap.size]? = some (.cells cur 41 (0, 0)) ∧ cur.size = ss.length * 6) ∧ SdRow wr w.heap.size ss k ∧ Below w.heap.size w wr)
      (fun i _ => ss.length - (intOf i).toNat)
    case atStart => exact ⟨0, Nat.zero_le _, rfl, ⟨cur, hcur, hcs⟩, fun j d hj => absurd hj (Nat.not_lt_zero _), hbel⟩
    case round =>
      obtain ⟨k, hk, rfl, ⟨cur, hcur, hcs⟩, hrow, hbl⟩ := hrel
      by_cases hlt : k < ss.length
      · obtain ⟨d, hd, hmem⟩ := get_lt hlt
        obtain ⟨b, o, he, -, h1, h2, h3, h4, ⟨nao, nc, h5, h6, h7⟩, h8⟩ := hn k d hd
        cases he
        have hbw : b < w.heap.size := World.block_lt_of_cell? w _ h1
        have g1 := cell_later hbl h1
        have g2 := cell_later hbl h2
        have g3 := cell_later hbl h3
        have g4 := cell_later hbl h4
        have g5 := cell_later hbl h5
        have g8 := cell_later hbl h8
        go_wp2_with fail
        refine (shard_any d nao nc wr h6 (h7.keep (Keeps.of_below hbl)) (hbs d hmem)).mono ?_
        rintro e w2 ⟨ao2, c2, rfl, hok2, hn2, hb2⟩
        have hcur2 := (hb2.block _ (lt_of_block hcur)).trans hcur
        obtain ⟨v0, hv0⟩ := row_cell (o := k * 6) hcur2 (by omega)
        obtain ⟨v1, hv1⟩ := row_cell (o := k * 6 + 1) hcur2 (by omega)
        obtain ⟨v2, hv2⟩ := row_cell (o := k * 6 + 2) hcur2 (by omega)
        obtain ⟨v3, hv3⟩ := row_cell (o := k * 6 + 3) hcur2 (by omega)
        obtain ⟨v4, hv4⟩ := row_cell (o := k * 6 + 4) hcur2 (by omega)
        obtain ⟨v5, hv5⟩ := row_cell (o := k * 6 + 5) hcur2 (by omega)
        have hfr := fun o => frozen_of_row w2 _ o _ _ hcur2
        go_wp2_with fail
        go_roundw
        case rel =>
          have R := SdRow.put (e := 41) hcur2 hcs hd (hrow.later hb2) hok2 (hn2.low (by have := lt_of_block hcur; omega))
          obtain ⟨cur', hc1, hc2⟩ := put_still (xs := [.int .i64 d.i, .int .i64 d.f, .int .i64 d.t, .int .i64 d.r, .slice ao2 d.ns.length c2, .int .u64 d.o]) (o := k * 6) hcur2 (by simp; omega)
          exact ⟨k + 1, by omega, by go_num, ⟨cur', hc1, hc2.trans hcs⟩, R, put_below (hbl.trans (hb2.mono (by have := lt_of_block hcur; omega))) (Nat.le_refl _) (k * 6) [.int .i64 d.i, .int .i64 d.f, .int .i64 d.t, .int .i64 d.r, .slice ao2 d.ns.length c2, .int .u64 d.o]⟩
        case measure => simp [intOf]; omega
      · have HK : Hid (k = ss.length) := (by omega : k = ss.length)
        go_wp2_with fail
        go_ret
        rw [HK.out] at hrow
        exact ⟨some ⟨w.heap.size, 0, none⟩, ss.length, rfl, Or.inr ⟨w.heap.size, cur, rfl, rfl, Nat.le_refl _, hcur, hcs, hrow⟩, hbl⟩

theorem below_undrew {B : Nat} {w w' : World} (h : Below B w.drew w') : Below B w w' := ⟨h.os, h.tape, h.output, h.size, h.block⟩

set_option maxHeartbeats 1000000 in
theorem cluster_any (d : Cd) (ao : Option Addr) (c : Nat) (w : World) (hok : SlOk ao d.ss.length c) (hn : SdsAt w 0 ao d.ss) (hb : CdSmall d) :
    Calls Tryd.prog 18 #[.agg #[.string d.n, .slice ao d.ss.length c]] w fun e w' =>
      ∃ ao' c', e = .returned (.agg #[.string d.n, .slice ao' d.ss.length c']) ∧ SlOk ao' d.ss.length c' ∧ SdsAt w' w.heap.size ao' d.ss ∧ Below w.heap.size w w' := by
  obtain ⟨hb1, hb2, hb3⟩ := hb
  have hX : Below w.heap.size w ((w.alloc (Obj.cells #[.string d.n, .slice ao d.ss.length c] 32)).alloc (Obj.cells #[.string ⟨#[]⟩, .slice none 0 0] 44)).drew := (((Below.refl _ _).alloc (Nat.le_refl _) _).alloc (by simp) _).drew
  go_enter Tryd.func18, Tryd.ntmps18
  go_wp2_with fail
  go_region_with (go_at_call 17; refine (shards_any d.ss ao c _ hok (hn.keep (Keeps.of_below hX)) hb2 hb3).mono ?_; rintro e w2 ⟨ao2, c2, rfl, hm2, hbel2⟩; obtain ⟨hA, hC, hF⟩ := two_boxes (by simp) (below_undrew hbel2))
  all_goals
    go_wp2_with fail
    have hsl := hm2.at (by omega)
    have hk := put_keeps (lo := w.heap.size + 1 + 1) (g := w.heap.size + 1) (by omega) w2 0 [.string d.n, .slice ao2 d.ss.length c2]
    have hfin : Below w.heap.size w (putCells (w.heap.size + 1) w2 0 [.string d.n, .slice ao2 d.ss.length c2]) := put_below (hX.trans (hbel2.mono (by simp; omega))) (by omega) _ _
    exact bodyPost_ret (v := .agg #[.string d.n, .slice ao2 d.ss.length c2]) (by simp [results, Tryd.results18, go_sem, hC, hF]) rfl
      ⟨ao2, c2, rfl, hsl.1, ((hsl.2.low (by simp)).keep hk).low (by omega), hfin⟩

set_option maxHeartbeats 1000000 in
theorem clusters_any (cs : List Cd) (ao : Option Addr) (c : Nat) (w : World) (hok : SlOk ao cs.length c) (hn : CdsAt w 0 ao cs) (hb : cs.length ≤ 1048576) (hbs : ∀ s ∈ cs, CdSmall s) :
    Calls Tryd.prog 8 #[.slice ao cs.length c] w fun e w' => ∃ ao' c', e = .returned (.slice ao' cs.length c') ∧ CdMade w' w.heap.size ao' c' cs ∧ Below w.heap.size w w' := by
  have hnil := fun (w : World) => Lib.run_eql_slice_nil (P := Tryd.prog) w 22 32 ao cs.length c 0 0 Tryd.underlying22
  obtain ⟨ho1, ho2, ho3⟩ := hok
  unfold maxLen at ho2
  cases ao with
  | none =>
    obtain ⟨h0, rfl⟩ := ho3 rfl
    have e0 : cs = [] := List.eq_nil_of_length_eq_zero h0
    clear ho3
    subst e0
    have hnil := fun (w : World) => Lib.run_eql_slice_nil (P := Tryd.prog) w 22 32 none 0 0 0 0 Tryd.underlying22
    show Calls Tryd.prog 8 #[.slice none 0 0] w _
    go_enter Tryd.func8, Tryd.ntmps8
    go_wp2_with fail
    go_ret
    exact ⟨none, 0, rfl, Or.inl ⟨rfl, rfl, rfl⟩, Below.refl _ _⟩
  | some a0 =>
    go_enter Tryd.func8, Tryd.ntmps8
    go_wp2_with (at_make; refine make_row rfl _ _ 34 rfl 44 _ 2 40 Tryd.underlying34 info44 _ _ _ _ cs.length rfl rfl ?b0 ?b1 ?b2 ?b3 ?_)
    case b0 => rfl
    case b1 => rfl
    case b2 => omega
    case b3 => unfold maxLen; omega
    intro w1 cur hcur hcs hbel
    go_wp2_with fail
    go_loopw [12] (fun i wr => ∃ k : Nat, k ≤ cs.length ∧ i = .int .i64 k ∧ (∃ cur : Array Value, wr.heap[w.heap.size]? = some (.cells cur 44 (0, 0)) ∧ cur.size = cs.length * 2) ∧ CdRow wr w.heap.size cs k ∧ Below w.heap.size w wr)
      (fun i _ => cs.length - (intOf i).toNat)
    case atStart => exact ⟨0, Nat.zero_le _, rfl, ⟨cur, hcur, hcs⟩, fun j d hj => absurd hj (Nat.not_lt_zero _), hbel⟩
    case round =>
      obtain ⟨k, hk, rfl, ⟨cur, hcur, hcs⟩, hrow, hbl⟩ := hrel
      by_cases hlt : k < cs.length
      · obtain ⟨d, hd, hmem⟩ := get_lt hlt
        obtain ⟨b, o, he, -, h1, ⟨nao, nc, h5, h6, h7⟩⟩ := hn k d hd
        cases he
        have hbw : b < w.heap.size := World.block_lt_of_cell? w _ h1
        have g1 := cell_later hbl h1
        have g5 := cell_later hbl h5
        go_wp2_with fail
        refine (cluster_any d nao nc wr h6 (h7.keep (Keeps.of_below hbl)) (hbs d hmem)).mono ?_
        rintro e w2 ⟨ao2, c2, rfl, hok2, hn2, hb2⟩
        have hcur2 := (hb2.block _ (lt_of_block hcur)).trans hcur
        obtain ⟨v0, hv0⟩ := row_cell (o := k * 2) hcur2 (by omega)
        obtain ⟨v1, hv1⟩ := row_cell (o := k * 2 + 1) hcur2 (by omega)
        have hfr := fun o => frozen_of_row w2 _ o _ _ hcur2
        go_wp2_with fail
        go_roundw
        case rel =>
          have R := CdRow.put (e := 44) hcur2 hcs hd (hrow.later hb2) hok2 (hn2.low (by have := lt_of_block hcur; omega))
          obtain ⟨cur', hc1, hc2⟩ := put_still (xs := [.string d.n, .slice ao2 d.ss.length c2]) (o := k * 2) hcur2 (by simp; omega)
          exact ⟨k + 1, by omega, by go_num, ⟨cur', hc1, hc2.trans hcs⟩, R, put_below (hbl.trans (hb2.mono (by have := lt_of_block hcur; omega))) (Nat.le_refl _) (k * 2) [.string d.n, .slice ao2 d.ss.length c2]⟩
        case measure => simp [intOf]; omega
      · have HK : Hid (k = cs.length) := (by omega : k = cs.length)
        go_wp2_with fail
        go_ret
        rw [HK.out] at hrow
        exact ⟨some ⟨w.heap.size, 0, none⟩, cs.length, rfl, Or.inr ⟨w.heap.size, cur, rfl, rfl, Nat.le_refl _, hcur, hcs, hrow⟩, hbl⟩
end Go.Proofs.Qxb6629213aDoor
