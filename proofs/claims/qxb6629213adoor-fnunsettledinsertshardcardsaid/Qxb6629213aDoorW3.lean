import Derived.Test.Qxb6629213aDoorW2
namespace Go.Proofs.Qxb6629213aDoor
open Go.RowKit
set_option linter.unusedVariables false
set_option linter.unusedSimpArgs false


/-- What a pointer to a Status leads to. -/
def StAt (w : World) (lo b : Nat) (cs : List Cd) : Prop := lo ≤ b ∧ ∃ ao c, w.cell? ⟨b, 0, none⟩ = some (.slice ao cs.length c) ∧ SlOk ao cs.length c ∧ CdsAt w lo ao cs

theorem SdsAt.take {w : World} {lo n : Nat} {ao : Option Addr} {ss : List Sd} (h : SdsAt w lo ao ss) : SdsAt w lo ao (ss.take n) := fun k d hd => by
  rw [List.getElem?_take] at hd
  split at hd
  · exact h k d hd
  · cases hd

/-- The clusters ahead of ci, and the first 'at' shards of cluster ci. -/
def cutAt (cs : List Cd) (ci at_ : Nat) (d : Cd) : List Cd := cs.take ci ++ [⟨d.n, d.ss.take at_⟩]
theorem cutAt_length {cs : List Cd} {ci at_ : Nat} {d : Cd} (h : cs[ci]? = some d) : (cutAt cs ci at_ d).length = ci + 1 := by
  have := (List.getElem?_eq_some_iff.1 h).1
  simp [cutAt]; omega
theorem cutAt_lt {cs : List Cd} {ci at_ k : Nat} {d x : Cd} (h : cs[ci]? = some d) (hk : k < ci) (hx : cs[k]? = some x) : (cutAt cs ci at_ d)[k]? = some x := by
  have := (List.getElem?_eq_some_iff.1 h).1
  unfold cutAt
  rw [List.getElem?_append_left (by simp; omega), List.getElem?_take, if_pos hk]
  exact hx
theorem cutAt_eq {cs : List Cd} {ci at_ : Nat} {d : Cd} (h : cs[ci]? = some d) : (cutAt cs ci at_ d)[ci]? = some ⟨d.n, d.ss.take at_⟩ := by
  have := (List.getElem?_eq_some_iff.1 h).1
  unfold cutAt
  rw [List.getElem?_append_right (by simp; omega)]
  simp [Nat.min_eq_left (Nat.le_of_lt this)]

theorem CdRow.all' {w : World} {g k : Nat} {cs : List Cd} (h : CdRow w g cs k) (hk : k = cs.length) : CdsAt w g (some ⟨g, 0, none⟩) cs := by
  subst hk
  exact h.all

theorem cut_end {w w2 : World} {cs : List Cd} {ci at_ c2 lo : Nat} {d : Cd} {ao2 : Option Addr} {cur : Array Value} (hd : cs[ci]? = some d) (hat : at_ ≤ d.ss.length) (hb : cs.length ≤ 1048576) (hs : d.ss.length ≤ 1048576)
    (hcur : w2.heap[w.heap.size]? = some (.cells cur 44 (0, 0))) (hcs : cur.size = (ci + 1) * 2) (hrow : CdRow w2 w.heap.size (cutAt cs ci at_ d) ci) (hbl : Below w.heap.size w w2) (hlo : w.heap.size < lo) (hm : SdMade w2 lo ao2 c2 (d.ss.take at_)) :
    StAt ((putCells w.heap.size w2 (ci * 2) [.string d.n, .slice ao2 at_ c2]).alloc (.cells #[.slice (some ⟨w.heap.size, 0, none⟩) (ci + 1) (ci + 1)] 37)) w.heap.size w2.heap.size (cutAt cs ci at_ d) ∧
    Below w.heap.size w ((putCells w.heap.size w2 (ci * 2) [.string d.n, .slice ao2 at_ c2]).alloc (.cells #[.slice (some ⟨w.heap.size, 0, none⟩) (ci + 1) (ci + 1)] 37)) := by
  have hl : (d.ss.take at_).length = at_ := by simp; omega
  have hci := (List.getElem?_eq_some_iff.1 hd).1
  obtain ⟨m1, m2⟩ := hm.at (by omega)
  have R := CdRow.put (e := 44) hcur (by rw [cutAt_length hd]; exact hcs) (cutAt_eq hd) hrow m1 (m2.low (by omega))
  simp only [hl] at R
  have hput := put_below (g := w.heap.size) hbl (Nat.le_refl _) (ci * 2) [.string d.n, .slice ao2 at_ c2]
  have hsz : (putCells w.heap.size w2 (ci * 2) [.string d.n, .slice ao2 at_ c2]).heap.size = w2.heap.size := put_size _ _ _
  have hal := (Below.refl w2.heap.size (putCells w.heap.size w2 (ci * 2) [.string d.n, .slice ao2 at_ c2])).alloc (by omega) (.cells #[.slice (some ⟨w.heap.size, 0, none⟩) (ci + 1) (ci + 1)] 37)
  have hal2 := (Below.refl (putCells w.heap.size w2 (ci * 2) [.string d.n, .slice ao2 at_ c2]).heap.size (putCells w.heap.size w2 (ci * 2) [.string d.n, .slice ao2 at_ c2])).alloc (Nat.le_refl _) (.cells #[.slice (some ⟨w.heap.size, 0, none⟩) (ci + 1) (ci + 1)] 37)
  have R2 := R.later hal2
  have hlen := cutAt_length (at_ := at_) hd
  refine ⟨⟨hbl.size, some ⟨w.heap.size, 0, none⟩, ci + 1, ?_, ⟨by omega, by unfold maxLen; omega, fun h => by cases h⟩, R2.all' hlen.symm⟩, hput.trans (hal.mono hbl.size)⟩
  rw [World.cell?_alloc_at _ _ _ _ hsz.symm, hlen]
  rfl

set_option maxHeartbeats 1000000 in
theorem prefixStatus_any (cs : List Cd) (ao : Option Addr) (c ci at_ : Nat) (d : Cd) (w : World) (hok : SlOk ao cs.length c) (hn : CdsAt w 0 ao cs) (hb : cs.length ≤ 1048576) (hbs : ∀ s ∈ cs, CdSmall s) (hd : cs[ci]? = some d) (hat : at_ ≤ d.ss.length) :
    Calls Tryd.prog 11 #[.slice ao cs.length c, .int .i64 ci, .int .i64 at_] w fun e w' => ∃ b, e = .returned (.pointer (some ⟨b, 0, none⟩)) ∧ StAt w' w.heap.size b (cutAt cs ci at_ d) ∧ Below w.heap.size w w' := by
  have hci := (List.getElem?_eq_some_iff.1 hd).1
  obtain ⟨ho1, ho2, ho3⟩ := hok
  unfold maxLen at ho2
  have hlen := cutAt_length (at_ := at_) hd
  have HL : Hid ((cutAt cs ci at_ d).length = ci + 1) := hlen
  clear hlen
  have hmem : d ∈ cs := List.mem_of_getElem? hd
  obtain ⟨hs1, hs2, hs3⟩ := hbs d hmem
  have HD : Hid (cs[ci]? = some d) := hd
  clear hd
  obtain ⟨b, o, he, -, q1, ⟨nao, nc, q5, q6, q7⟩⟩ := hn ci d HD.out
  subst he
  have hcall : ∀ wx : World, Below w.heap.size w wx → Calls Tryd.prog 17 #[.slice nao at_ nc] wx fun e w' => ∃ ao' c', e = .returned (.slice ao' at_ c') ∧ SdMade w' wx.heap.size ao' c' (d.ss.take at_) ∧ Below wx.heap.size wx w' := by
    intro wx hbx
    have hl : (d.ss.take at_).length = at_ := by simp; omega
    have := shards_any (d.ss.take at_) nao nc wx (by rw [hl]; exact ⟨Nat.le_trans hat q6.1, q6.2.1, fun h => by have := q6.2.2 h; omega⟩) ((q7.take).keep (Keeps.of_below hbx)) (by omega) (fun s hs => hs3 s (List.mem_of_mem_take hs))
    rw [hl] at this
    exact this
  have HC := hid hcall
  clear hcall
  go_enter Tryd.func11, Tryd.ntmps11
  go_wp2_with (at_make; refine make_row rfl _ _ 34 rfl 44 _ 2 40 Tryd.underlying34 info44 _ _ _ _ (ci + 1) rfl rfl ?b0 ?b1 ?b2 ?b3 ?_)
  case b0 => simp
  case b1 => simp
  case b2 => omega
  case b3 => unfold maxLen; omega
  intro w1 cur hcur hcs hbel
  go_wp2_with fail
  go_loopw [8] (fun i wr => ∃ k : Nat, k ≤ ci ∧ i = .int .i64 k ∧ (∃ cur : Array Value, wr.heap[w.heap.size]? = some (.cells cur 44 (0, 0)) ∧ cur.size = (cutAt cs ci at_ d).length * 2) ∧ CdRow wr w.heap.size (cutAt cs ci at_ d) k ∧ Below w.heap.size w wr)
    (fun i _ => ci - (intOf i).toNat)
  case atStart => exact ⟨0, Nat.zero_le _, rfl, ⟨cur, hcur, by rw [HL.out]; exact hcs⟩, fun j d hj => absurd hj (Nat.not_lt_zero _), hbel⟩
  case round =>
    obtain ⟨k, hk, rfl, ⟨cur, hcur, hcs⟩, hrow, hbl⟩ := hrel
    rw [HL.out] at hcs
    by_cases hlt : k < ci
    · obtain ⟨x, hx, hmx⟩ := get_lt (show k < cs.length by omega)
      obtain ⟨b', o', he, -, h1, ⟨xao, xc, h5, h6, h7⟩⟩ := hn k x hx
      cases he
      have g1 := cell_later hbl h1
      have g5 := cell_later hbl h5
      have HX : Hid (cs[k]? = some x) := hx
      clear hx
      go_wp2_with fail
      refine (cluster_any x xao xc wr h6 (h7.keep (Keeps.of_below hbl)) (hbs x hmx)).mono ?_
      rintro e w2 ⟨ao2, c2, rfl, hok2, hn2, hb2⟩
      have hcur2 := (hb2.block _ (lt_of_block hcur)).trans hcur
      obtain ⟨v0, hv0⟩ := row_cell (o := k * 2) hcur2 (by omega)
      obtain ⟨v1, hv1⟩ := row_cell (o := k * 2 + 1) hcur2 (by omega)
      have hfr := fun o => frozen_of_row w2 _ o _ _ hcur2
      go_wp2_with fail
      go_roundw
      case rel =>
        have R := CdRow.put (e := 44) hcur2 (by rw [HL.out]; exact hcs) (cutAt_lt HD.out hlt HX.out) (hrow.later hb2) hok2 (hn2.low (by have := lt_of_block hcur; omega))
        obtain ⟨cur', hc1, hc2⟩ := put_still (xs := [.string x.n, .slice ao2 x.ss.length c2]) (o := k * 2) hcur2 (by simp; omega)
        exact ⟨k + 1, by omega, by go_num, ⟨cur', hc1, by rw [HL.out]; exact hc2.trans hcs⟩, R, put_below (hbl.trans (hb2.mono (by have := lt_of_block hcur; omega))) (Nat.le_refl _) (k * 2) [.string x.n, .slice ao2 x.ss.length c2]⟩
      case measure => simp [intOf]; omega
    · have HK : Hid (k = ci) := (by omega : k = ci)
      have g1 := cell_later hbl q1
      have g5 := cell_later hbl q5
      obtain ⟨q61, q62, q63⟩ := q6
      go_wp2_with fail
      go_region_with (go_at_call 17; refine (HC.out _ hbl.drew).mono ?_; rintro e w2 ⟨ao2, c2, rfl, hm2, hb2⟩; have hb3 := below_undrew hb2; have p1 := cell_later hb3 g1; have p5 := cell_later hb3 g5; have hcur2 := (hb3.block _ (lt_of_block hcur)).trans hcur; obtain ⟨v0, hv0⟩ := row_cell (o := ci * 2) hcur2 (by omega); obtain ⟨v1, hv1⟩ := row_cell (o := ci * 2 + 1) hcur2 (by omega); have hfr := fun o => frozen_of_row w2 _ o _ _ hcur2)
      all_goals
        go_wp2_with fail
        have hbw := hbl.trans (hb3.mono hbl.size)
        have hrow2 := hrow.later hb3
        rw [HK.out] at hrow2
        have R := cut_end HD.out hat hb hs2 hcur2 hcs hrow2 hbw (lt_of_block hcur) hm2
        go_ret
        exact ⟨w2.heap.size, rfl, R.1, R.2⟩
end Go.Proofs.Qxb6629213aDoor
