import Derived.Test.Qxb6629213aDoorLaws2
import Derived.Test.Qxb6629213aDoorW5
import Derived.Test.Qxb6629213aDoorW8
import Derived.Test.Qxb6629213aDoorW9
import Derived.Test.Qxb6629213aDoorW11
namespace Go.Proofs.Qxb6629213aDoor
open Go.RowKit
set_option linter.unusedVariables false
set_option linter.unusedSimpArgs false

/-- One more shard at its place. -/
def insL (ss : List Sd) (pos : Nat) (a : Sd) : List Sd := ss.take pos ++ a :: ss.drop pos
theorem insL_length {ss : List Sd} {pos : Nat} {a : Sd} (h : pos ≤ ss.length) : (insL ss pos a).length = ss.length + 1 := by
  simp [insL]; omega
theorem insL_lt {ss : List Sd} {pos k : Nat} {a x : Sd} (h : pos ≤ ss.length) (hk : k < pos) (hx : ss[k]? = some x) : (insL ss pos a)[k]? = some x := by
  unfold insL
  rw [List.getElem?_append_left (by simp; omega), List.getElem?_take, if_pos hk]
  exact hx
theorem insL_eq {ss : List Sd} {pos : Nat} {a : Sd} (h : pos ≤ ss.length) : (insL ss pos a)[pos]? = some a := by
  unfold insL
  rw [List.getElem?_append_right (by simp; omega)]
  simp [Nat.min_eq_left h]
theorem insL_gt {ss : List Sd} {pos k : Nat} {a x : Sd} (h : pos ≤ ss.length) (hk : pos ≤ k) (hx : ss[k]? = some x) : (insL ss pos a)[k + 1]? = some x := by
  unfold insL
  rw [List.getElem?_append_right (by simp; omega)]
  simp only [List.length_take, Nat.min_eq_left h]
  rw [show k + 1 - pos = (k - pos) + 1 by omega, List.getElem?_cons_succ, List.getElem?_drop, show pos + (k - pos) = k by omega]
  exact hx
theorem insL_mem {ss : List Sd} {pos : Nat} {a x : Sd} (h : x ∈ insL ss pos a) : x ∈ ss ∨ x = a := by
  unfold insL at h
  rcases List.mem_append.1 h with h | h
  · exact Or.inl (List.mem_of_mem_take h)
  · rcases List.mem_cons.1 h with h | h
    · exact Or.inr h
    · exact Or.inl (List.mem_of_mem_drop h)
theorem st_box {w : World} {ao : Option Addr} {c lo : Nat} {cs : List Cd} (hl : cs.length ≤ 1048576) (h : CdMade w lo ao c cs) : StAt (w.alloc (.cells #[.slice ao cs.length c] 37)) 0 w.heap.size cs := by
  obtain ⟨h1, h2⟩ := h.at (by omega)
  exact ⟨Nat.zero_le _, ao, c, by rw [World.cell?_alloc_at _ _ _ _ rfl]; rfl, h1, (h2.low (Nat.zero_le _)).keep (Keeps.of_below (below_alloc w _))⟩

theorem undrewN {w w' : World} {k : Nat} (h : Below (w.drewN k).heap.size (w.drewN k) w') : Below w.heap.size w w' := ⟨h.os, h.tape, h.output, h.size, h.block⟩

set_option maxRecDepth 100000 in
set_option maxHeartbeats 8000000 in
theorem insert_any (cs : List Cd) (ao : Option Addr) (c : Nat) (x y : Int) (ad : Sd) (nao : Option Addr) (nc : Nat) (w : World) (hok : SlOk ao cs.length c) (hn' : CdsAt w 0 ao cs) (hi : ∀ d ∈ cs, ∀ s ∈ d.ss, InI64 s.i) (hok0 : SlOk nao ad.ns.length nc) (hn0' : NdsAt w 0 nao ad.ns) (hia : InI64 ad.i) (htab : Lib.TabIs Tryd.prog w tabName .u64 Lib.pow10Tab) :
    Calls Tryd.prog 3 #[.slice ao cs.length c, .int .i64 x, .int .i64 y, .agg #[.int .i64 ad.i, .int .i64 ad.f, .int .i64 ad.t, .int .i64 ad.r, .slice nao ad.ns.length nc, .int .u64 ad.o]] w fun e w' => e = .returned (.bool true) ∧ Below w.heap.size w w' := by
  have HO := hid hok
  have HO0 := hid hok0
  have HFIN : Hid (∀ wA w', wA = w.alloc (.cells #[.int .i64 ad.i, .int .i64 ad.f, .int .i64 ad.t, .int .i64 ad.r, .slice nao ad.ns.length nc, .int .u64 ad.o] 26) → Below wA.heap.size wA w' → Below w.heap.size w w') := fun wA w' e h => by subst e; exact bt (ba w _) h
  obtain ⟨ho1, ho2, ho3⟩ := hok
  unfold maxLen at ho2
  obtain ⟨oo1, oo2, oo3⟩ := hok0
  unfold maxLen at oo2
  go_enter Tryd.func3, Tryd.ntmps3
  go_wp2_with fail
  generalize hwA : w.alloc (.cells #[.int .i64 ad.i, .int .i64 ad.f, .int .i64 ad.t, .int .i64 ad.r, .slice nao ad.ns.length nc, .int .u64 ad.o] 26) = w0
  have hA0 : Below w.heap.size w w0 := by rw [← hwA]; exact ba w _
  have hn := hn'.keep (Keeps.of_below hA0)
  have hn0 := hn0'.keep (Keeps.of_below hA0)
  have HBX : Hid (∀ wx, Below w0.heap.size w0 wx → ∀ o, wx.cell? ⟨w.heap.size, o, none⟩ = #[Value.int .i64 ad.i, .int .i64 ad.f, .int .i64 ad.t, .int .i64 ad.r, .slice nao ad.ns.length nc, .int .u64 ad.o][o]?) := fun wx hx o => by
    rw [hx.cell (p := ⟨w.heap.size, o, none⟩) (by rw [← hwA]; show w.heap.size < _; simp), ← hwA, World.cell?_alloc_at _ _ _ _ rfl]
  have HT : Hid (Lib.TabBelow Tryd.prog w0.heap.size w0 tabName .u64 Lib.pow10Tab) := fun wx hx => (Lib.tabBelow_of_tabIs htab) wx (bt hA0 hx)
  have HWA := hid hwA.symm
  clear htab hn' hn0' hA0 hwA
  refine (zzbytesInsert_any cs ao c x y ad nao nc w0 HO.out hn HO0.out hn0).mono ?_
  rintro e w00 ⟨b, rfl, hb00, hb⟩
  cases b with
  | false =>
    go_wp2_with fail
    go_ret
    exact ⟨rfl, HFIN.out _ _ HWA.out hb00⟩
  | true =>
    obtain ⟨hlen, hsm, hsma⟩ := hb rfl
    clear hb
    have x1 := HBX.out w00 hb00
    go_wp2_with fail
    refine (shardBytes_any ad nao nc 0 _ HO0.out (hn0.keep (Keeps.of_below hb00))).mono ?_
    rintro e w01 ⟨t0, rfl, hb01⟩
    have hA01 := bt hb00 hb01
    clear x1
    go_wp2_with fail
    refine (clustersBytes_any cs ao c t0 _ HO.out (hn.keep (Keeps.of_below hA01))).mono ?_
    rintro e w1 ⟨t, rfl, hb1'⟩
    have hb1 := bt hA01 hb1'
    clear hb1' hb01 hb00 hA01
    by_cases ht : 1048576 < t
    · go_wp2_with fail
      go_ret
      exact ⟨rfl, HFIN.out _ _ HWA.out hb1⟩
    · by_cases hx0 : x < 0
      · go_wp2_with fail
        go_ret
        exact ⟨rfl, HFIN.out _ _ HWA.out hb1⟩
      · by_cases hx1 : (cs.length : Int) ≤ x
        · go_wp2_with fail
          go_ret
          exact ⟨rfl, HFIN.out _ _ HWA.out hb1⟩
        · obtain ⟨ci, rfl⟩ : ∃ ci : Nat, x = ci := ⟨x.toNat, by omega⟩
          have hci : ci < cs.length := by omega
          obtain ⟨d, hd, hmem⟩ := get_lt hci
          obtain ⟨cb, co, he, -, q1, sao, sc, q2, hsok, hss⟩ := hn ci d hd
          cases he
          have g1 := cell_later hb1 q1
          have g2 := cell_later hb1 q2
          have HSO := hid hsok
          obtain ⟨so1, so2, so3⟩ := hsok
          unfold maxLen at so2
          clear hx0 hx1
          by_cases hy0 : y < 0
          · go_wp2_with fail
            go_ret
            exact ⟨rfl, HFIN.out _ _ HWA.out hb1⟩
          · by_cases hy1 : (d.ss.length : Int) < y
            · go_wp2_with fail
              go_ret
              exact ⟨rfl, HFIN.out _ _ HWA.out hb1⟩
            · obtain ⟨si, rfl⟩ : ∃ si : Nat, y = si := ⟨y.toNat, by omega⟩
              have hsi : si ≤ d.ss.length := by omega
              clear hy0 hy1
              have HD := hid hd
              clear hd
              have hdl := (hsm d hmem).2.1
              go_wp2_with fail
              refine (clusters_any cs (some ⟨cb, co, none⟩) c w1 HO.out (hn.keep (Keeps.of_below hb1)) hlen hsm).mono ?_
              rintro e w2 ⟨ao1, c1, rfl, hm1, hb2⟩
              go_wp2_with fail
              have hA3 : Below w0.heap.size w0 (w2.alloc (.cells #[.slice ao1 cs.length c1] 37)) := bt (bt hb1 hb2) (ba _ _)
              have HST := hid (st_box hlen hm1)
              refine (clusters_any cs (some ⟨cb, co, none⟩) c _ HO.out (hn.keep (Keeps.of_below hA3)) hlen hsm).mono ?_
              rintro e w4 ⟨ao2, c2, rfl, hm2, hb4⟩
              have hA4 := bt hA3 hb4
              have g2' := cell_later hA4 q2
              clear g1 g2
              rcases hm2 with ⟨-, -, rfl⟩ | ⟨gg2, cur2, rfl, rfl, hlo2, hcur2, hcs2, hrow2⟩
              · simp at hci
              have HP := hid (And.intro hlo2 (And.intro hcs2 (And.intro hrow2 hcur2)))
              have HQ := hid (And.intro hb1 (And.intro hb2 (And.intro hA3 (And.intro hb4 hA4))))
              have HV := hid (And.intro q1 q2)
              clear hlo2 hcs2 hrow2 hcur2 hb1 hb2 hA3 hb4
              go_wp2_with (at_make; refine make_row rfl _ _ 38 rfl 41 _ 6 64 Tryd.underlying38 info41 _ _ _ _ (d.ss.length + 1) rfl rfl ?b0 ?b1 ?b2 ?b3 ?_)
              case b0 => simp
              case b1 => simp
              case b2 => omega
              case b3 => unfold maxLen; omega
              intro w5 cur hcur hcs hb5
              have HL := hid (insL_length (a := ad) hsi)
              go_wp2_with fail
              go_loopw [13] (fun i wr => ∃ k : Nat, k ≤ si ∧ i = .int .i64 k ∧ (∃ cur : Array Value, wr.heap[w4.heap.size]? = some (.cells cur 41 (0, 0)) ∧ cur.size = (insL d.ss si ad).length * 6) ∧ SdRow wr w4.heap.size (insL d.ss si ad) k ∧ Below w4.heap.size w4 wr)
                (fun i _ => si - (intOf i).toNat)
              case atStart => exact ⟨0, Nat.zero_le _, rfl, ⟨cur, hcur, by rw [HL.out]; exact hcs⟩, fun j d hj => absurd hj (Nat.not_lt_zero _), hb5⟩
              case round =>
                obtain ⟨k, hk, rfl, ⟨cur, hcur, hcs⟩, hrow, hbl⟩ := hrel
                rw [HL.out] at hcs
                have hAr := bt hA4 hbl
                by_cases hlt : k < si
                · obtain ⟨s, hs, hsmem⟩ := get_lt (show k < d.ss.length by omega)
                  obtain ⟨sb, so, he, -, r1, r2, r3, r4, ⟨xao, xc, r5, xok, xn⟩, r8⟩ := hss k s hs
                  cases he
                  have p1 := cell_later hAr r1
                  have p2 := cell_later hAr r2
                  have p3 := cell_later hAr r3
                  have p4 := cell_later hAr r4
                  have p5 := cell_later hAr r5
                  have p8 := cell_later hAr r8
                  have HS := hid hs
                  clear hs r1 r2 r3 r4 r5 r8
                  go_wp2_with fail
                  refine (shard_any s xao xc wr xok (xn.keep (Keeps.of_below hAr)) ((hsm d hmem).2.2 s hsmem)).mono ?_
                  rintro e w6 ⟨ao2, c2, rfl, hok2, hn2, hb6⟩
                  have hcur2 := (hb6.block _ (lt_of_block hcur)).trans hcur
                  obtain ⟨v0, hv0⟩ := row_cell (o := k * 6) hcur2 (by omega)
                  obtain ⟨v1, hv1⟩ := row_cell (o := k * 6 + 1) hcur2 (by omega)
                  obtain ⟨v2, hv2⟩ := row_cell (o := k * 6 + 2) hcur2 (by omega)
                  obtain ⟨v3, hv3⟩ := row_cell (o := k * 6 + 3) hcur2 (by omega)
                  obtain ⟨v4, hv4⟩ := row_cell (o := k * 6 + 4) hcur2 (by omega)
                  obtain ⟨v5, hv5⟩ := row_cell (o := k * 6 + 5) hcur2 (by omega)
                  have hfr := fun o => frozen_of_row w6 _ o _ _ hcur2
                  clear hAr
                  go_wp2_with fail
                  go_roundw
                  case rel =>
                    have R := SdRow.put (e := 41) hcur2 (by rw [HL.out]; exact hcs) (insL_lt hsi hlt HS.out) (hrow.later hb6) hok2 (hn2.low (by have := lt_of_block hcur; omega))
                    obtain ⟨cur', hc1, hc2⟩ := put_still (xs := [.int .i64 s.i, .int .i64 s.f, .int .i64 s.t, .int .i64 s.r, .slice ao2 s.ns.length c2, .int .u64 s.o]) (o := k * 6) hcur2 (by simp; omega)
                    exact ⟨k + 1, by omega, by go_num, ⟨cur', hc1, by rw [HL.out]; exact hc2.trans hcs⟩, R, put_below (hbl.trans (hb6.mono (by have := lt_of_block hcur; omega))) (Nat.le_refl _) (k * 6) [.int .i64 s.i, .int .i64 s.f, .int .i64 s.t, .int .i64 s.r, .slice ao2 s.ns.length c2, .int .u64 s.o]⟩
                  case measure => simp [intOf]; omega
                · have HK := hid (show k = si by omega)
                  have x1 := HBX.out wr hAr
                  go_wp2_with fail
                  refine (shard_any ad nao nc wr HO0.out (hn0.keep (Keeps.of_below hAr)) hsma).mono ?_
                  rintro e w6 ⟨ao2, c2, rfl, hok2, hn2, hb6⟩
                  have hcur2 := (hb6.block _ (lt_of_block hcur)).trans hcur
                  obtain ⟨v0, hv0⟩ := row_cell (o := si * 6) hcur2 (by omega)
                  obtain ⟨v1, hv1⟩ := row_cell (o := si * 6 + 1) hcur2 (by omega)
                  obtain ⟨v2, hv2⟩ := row_cell (o := si * 6 + 2) hcur2 (by omega)
                  obtain ⟨v3, hv3⟩ := row_cell (o := si * 6 + 3) hcur2 (by omega)
                  obtain ⟨v4, hv4⟩ := row_cell (o := si * 6 + 4) hcur2 (by omega)
                  obtain ⟨v5, hv5⟩ := row_cell (o := si * 6 + 5) hcur2 (by omega)
                  have hfr := fun o => frozen_of_row w6 _ o _ _ hcur2
                  rw [HK.out] at hrow
                  have R := SdRow.put (e := 41) hcur2 (by rw [HL.out]; exact hcs) (insL_eq hsi) (hrow.later hb6) hok2 (hn2.low (by have := lt_of_block hcur; omega))
                  have HST2 := hid (put_still (xs := [.int .i64 ad.i, .int .i64 ad.f, .int .i64 ad.t, .int .i64 ad.r, .slice ao2 ad.ns.length c2, .int .u64 ad.o]) (o := si * 6) hcur2 (by simp; omega))
                  have HR := hid R
                  have HB2 := hid (put_below (hbl.trans (hb6.mono (by have := lt_of_block hcur; omega))) (Nat.le_refl _) (si * 6) [.int .i64 ad.i, .int .i64 ad.f, .int .i64 ad.t, .int .i64 ad.r, .slice ao2 ad.ns.length c2, .int .u64 ad.o])
                  have HCS := hid hcs
                  clear R x1 hAr hbl hb6 hrow hn2 hok2
                  go_wp2_with fail
                  go_loopw [14] (fun i wr => ∃ k : Nat, si ≤ k ∧ k ≤ d.ss.length ∧ i = .int .i64 k ∧ (∃ cur : Array Value, wr.heap[w4.heap.size]? = some (.cells cur 41 (0, 0)) ∧ cur.size = (insL d.ss si ad).length * 6) ∧ SdRow wr w4.heap.size (insL d.ss si ad) (k + 1) ∧ Below w4.heap.size w4 wr)
                    (fun i _ => d.ss.length - (intOf i).toNat)
                  case atStart =>
                    obtain ⟨cur', hc1, hc2⟩ := HST2.out
                    exact ⟨si, Nat.le_refl _, hsi, rfl, ⟨cur', hc1, by rw [HL.out]; exact hc2.trans HCS.out⟩, HR.out, HB2.out⟩
                  case round =>
                    clear HST2 HR HB2 hcur2 hv0 hv1 hv2 hv3 hv4 hv5 hfr
                    obtain ⟨k, hk0, hk, rfl, ⟨cur, hcur, hcs⟩, hrow, hbl⟩ := hrel
                    rw [HL.out] at hcs
                    have hAr := bt hA4 hbl
                    by_cases hlt : k < d.ss.length
                    · obtain ⟨s, hs, hsmem⟩ := get_lt hlt
                      obtain ⟨sb, so, he, -, r1, r2, r3, r4, ⟨xao, xc, r5, xok, xn⟩, r8⟩ := hss k s hs
                      cases he
                      have p1 := cell_later hAr r1
                      have p2 := cell_later hAr r2
                      have p3 := cell_later hAr r3
                      have p4 := cell_later hAr r4
                      have p5 := cell_later hAr r5
                      have p8 := cell_later hAr r8
                      have HS := hid hs
                      clear hs r1 r2 r3 r4 r5 r8
                      go_wp2_with fail
                      refine (shard_any s xao xc wr xok (xn.keep (Keeps.of_below hAr)) ((hsm d hmem).2.2 s hsmem)).mono ?_
                      rintro e w6 ⟨ao2, c2, rfl, hok2, hn2, hb6⟩
                      have hcur2 := (hb6.block _ (lt_of_block hcur)).trans hcur
                      obtain ⟨v0, hv0⟩ := row_cell (o := (k + 1) * 6) hcur2 (by omega)
                      obtain ⟨v1, hv1⟩ := row_cell (o := (k + 1) * 6 + 1) hcur2 (by omega)
                      obtain ⟨v2, hv2⟩ := row_cell (o := (k + 1) * 6 + 2) hcur2 (by omega)
                      obtain ⟨v3, hv3⟩ := row_cell (o := (k + 1) * 6 + 3) hcur2 (by omega)
                      obtain ⟨v4, hv4⟩ := row_cell (o := (k + 1) * 6 + 4) hcur2 (by omega)
                      obtain ⟨v5, hv5⟩ := row_cell (o := (k + 1) * 6 + 5) hcur2 (by omega)
                      have hfr := fun o => frozen_of_row w6 _ o _ _ hcur2
                      clear hAr
                      go_wp2_with fail
                      go_roundw
                      case rel =>
                        have R := SdRow.put (e := 41) hcur2 (by rw [HL.out]; exact hcs) (insL_gt hsi hk0 HS.out) (hrow.later hb6) hok2 (hn2.low (by have := lt_of_block hcur; omega))
                        obtain ⟨cur', hc1, hc2⟩ := put_still (xs := [.int .i64 s.i, .int .i64 s.f, .int .i64 s.t, .int .i64 s.r, .slice ao2 s.ns.length c2, .int .u64 s.o]) (o := (k + 1) * 6) hcur2 (by simp; omega)
                        exact ⟨k + 1, by omega, by omega, by go_num, ⟨cur', hc1, by rw [HL.out]; exact hc2.trans hcs⟩, R, put_below (hbl.trans (hb6.mono (by have := lt_of_block hcur; omega))) (Nat.le_refl _) ((k + 1) * 6) [.int .i64 s.i, .int .i64 s.f, .int .i64 s.t, .int .i64 s.r, .slice ao2 s.ns.length c2, .int .u64 s.o]⟩
                      case measure => simp [intOf]; omega
                    · have HK2 := hid (show k = d.ss.length by omega)
                      obtain ⟨hlo2, hcs2, hrow2, hcur2⟩ := HP.out
                      have e2 := (hbl.block _ (lt_of_block hcur2)).trans hcur2
                      obtain ⟨v6, hv6⟩ := row_cell (o := ci * 2) e2 (by omega)
                      obtain ⟨v7, hv7⟩ := row_cell (o := ci * 2 + 1) e2 (by omega)
                      have hfr2 := fun o => frozen_of_row wr _ o _ _ e2
                      have k1 := cell_later hAr HV.out.1
                      rw [HK2.out] at hrow
                      rw [← HL.out] at hrow
                      have RY := set_cluster (ci := ci) (Nat.le_refl _) hcur2 hcs2 hrow2 (fun b hb => hbl.block b hb) hrow (by rw [HL.out]; omega) HD.out
                      rw [HL.out] at RY
                      have h3Y := put_below (g := gg2) (HQ.out.2.2.2.1.trans (hbl.mono HQ.out.2.2.2.1.size)) hlo2 (ci * 2) [.string d.n, .slice (some ⟨w4.heap.size, 0, none⟩) (d.ss.length + 1) (d.ss.length + 1)]
                      have hAY := HQ.out.2.2.1.trans (h3Y.mono HQ.out.2.2.1.size)
                      have hstY := HST.out.later h3Y
                      have HRY := hid RY
                      have HAY := hid hAY
                      have HSTY := hid hstY
                      clear hlo2 hcs2 hrow2 hcur2 e2 hrow RY h3Y hAY hstY hcur hcs hAr hbl
                      go_wp2_with fail
                      obtain ⟨Y, HY⟩ : ∃ Y, Hid (Y = putCells gg2 wr (ci * 2) [.string d.n, .slice (some ⟨w4.heap.size, 0, none⟩) (d.ss.length + 1) (d.ss.length + 1)]) := ⟨_, rfl⟩
                      have hAY := HAY.out
                      have hstY := HSTY.out
                      rw [← HY.out] at hAY hstY
                      have HRY2 : Hid (CdRow Y gg2 (cs.set ci ⟨d.n, insL d.ss si ad⟩) cs.length) := by rw [HY.out]; exact HRY.out
                      show Calls Tryd.prog 10 #[.pointer (some ⟨w2.heap.size, 0, none⟩)] (putCells gg2 wr (ci * 2) [.string d.n, .slice (some ⟨w4.heap.size, 0, none⟩) (d.ss.length + 1) (d.ss.length + 1)]) _
                      rw [← HY.out]
                      have hu := uok_cs hlen hsm hi
                      have hn1 := (hsm d hmem).1
                      have HUF := hid (uok_set (ss := insL d.ss si ad) hu HD.out (by rw [HL.out]; omega) (fun s hs => by
                        rcases insL_mem hs with h | rfl
                        · exact ⟨(hsm d hmem).2.2 s h, hi d hmem s h⟩
                        · exact ⟨hsma, hia⟩))
                      clear hv6 hv7 hfr2 k1
                      obtain ⟨LP, HLP⟩ : ∃ L, Hid (unset (cutAt cs ci si d) = L) := ⟨_, rfl⟩
                      obtain ⟨LR, HLR⟩ : ∃ L, Hid (postL cs ci si d = L) := ⟨_, rfl⟩
                      obtain ⟨nP, HnP⟩ : ∃ n, Hid (LP.length = n) := ⟨_, rfl⟩
                      obtain ⟨nR, HnR⟩ : ∃ n, Hid (LR.length = n) := ⟨_, rfl⟩
                      have hpre : preL cs ci si d = LP := by rw [← unset_cut]; exact HLP.out
                      have hB : unset cs = LP ++ LR := by rw [unset_at si HD.out, hpre, HLR.out]
                      have hF : unset (cs.set ci ⟨d.n, insL d.ss si ad⟩) = LP ++ ((if setd ad then [] else [nameOf d.n ad.i]) ++ LR) := by
                        have := unset_insert (pos := si) ad HD.out
                        rw [hpre, HLR.out] at this
                        exact this
                      have HLB := hid hB
                      have HnB := hid (show (LP ++ LR).length = nP + nR by rw [List.length_append, HnP.out, HnR.out])
                      have HTK := hid (show (LP ++ LR).take nP = LP by rw [← HnP.out]; exact List.take_left)
                      clear hB hpre
                      by_cases hset : setd ad = true
                      · rw [if_pos hset, List.nil_append] at hF
                        have HLF := hid hF
                        clear hF
                        refine (unsettled_as cs (LP ++ LR) (nP + nR) 0 w2.heap.size Y HLB.out HnB.out hstY hu (HT.out Y hAY)).mono ?_
                        rintro e w7 ⟨bo, bc, rfl, hokB, hstB, hb7⟩
                        have hA7 := bt hAY hb7
                        go_wp2_with fail
                        refine (prefixStatus_any cs (some ⟨cb, co, none⟩) c ci si d w7 HO.out (hn.keep (Keeps.of_below hA7)) hlen hsm HD.out hsi).mono ?_
                        rintro e w8 ⟨pb, rfl, hst8, hb8⟩
                        have hA8 := bt hA7 hb8
                        go_wp2_with fail
                        refine (unsettled_as (cutAt cs ci si d) LP nP w7.heap.size pb w8 HLP.out HnP.out hst8 (uok_cut hu HD.out) (HT.out w8 hA8)).mono ?_
                        rintro e w9 ⟨po, pc, rfl, hokP, hstP, hb9⟩
                        have hA9 := bt hA8 hb9
                        go_wp2_with fail
                        have RY9 := HRY2.out.later (bt hb7 (bt hb8 hb9))
                        refine (unsettled_as (cs.set ci ⟨d.n, insL d.ss si ad⟩) (LP ++ LR) (nP + nR) 0 w9.heap.size _ HLF.out HnB.out (st_box' (by simp; omega) (by simp) RY9) HUF.out (HT.out _ (bt hA9 (ba _ _)))).mono ?_
                        rintro e w10 ⟨fo, fc, rfl, hokF, hstF, hb10⟩
                        have h9t := bt (ba w9 _) hb10
                        have hA10 := bt hA9 h9t
                        have hB10 := hstB.keep (bt hb8 (bt hb9 h9t))
                        have hP10 := hstP.keep h9t
                        have HSB := hid hokB
                        have HSP := hid hokP
                        have HSF := hid hokF
                        obtain ⟨ob1, ob2, ob3⟩ := hokB
                        obtain ⟨op1, op2, op3⟩ := hokP
                        obtain ⟨of1, of2, of3⟩ := hokF
                        unfold maxLen at ob2 op2 of2
                        clear hstB hstP hst8 hb7 hb8 hb9 hb10 h9t RY9 hA7 hA8 hA9 hstY hAY
                        go_wp2_with fail
                        refine (isPrefix_true (LP ++ LR) (nP + nR) nP po bo pc bc w10 HnB.out (by omega) HSP.out HSB.out (by rw [HTK.out]; exact hP10) hB10).mono ?_
                        rintro e w11 ⟨rfl, m, rfl⟩
                        have x10 := HBX.out w10 hA10
                        go_wp2_with fail
                        refine (zzsettled_any ad nao nc _ HO0.out (hn0.keep (Keeps.of_below (bt hA10 (bd w10 m)))) hsma).mono ?_
                        rintro e w12 ⟨rfl, hb12⟩
                        have h1012 := bt (bd w10 m) hb12
                        have hA12 := bt hA10 h1012
                        clear x10

                        go_wp2_with fail
                        refine (equal_true (LP ++ LR) (nP + nR) fo bo fc bc w12 HnB.out HSF.out HSB.out (hstF.keep h1012) (hB10.keep h1012)).mono ?_
                        rintro e w13 ⟨rfl, m2, rfl⟩
                        go_wp2_with fail
                        go_ret
                        exact ⟨rfl, HFIN.out _ _ HWA.out (bt hA12 (bd w12 m2))⟩
                      · have hset' : setd ad = false := by simpa using hset
                        obtain ⟨nm, HNM⟩ : ∃ x, Hid (nameOf d.n ad.i = x) := ⟨_, rfl⟩
                        rw [if_neg hset, HNM.out, List.singleton_append] at hF
                        have HLF := hid hF
                        have HnF := hid (show (LP ++ nm :: LR).length = nP + nR + 1 by rw [List.length_append, List.length_cons, HnP.out, HnR.out]; omega)
                        clear hF hset
                        refine (unsettled_as cs (LP ++ LR) (nP + nR) 0 w2.heap.size Y HLB.out HnB.out hstY hu (HT.out Y hAY)).mono ?_
                        rintro e w7 ⟨bo, bc, rfl, hokB, hstB, hb7⟩
                        have hA7 := bt hAY hb7
                        go_wp2_with fail
                        refine (prefixStatus_any cs (some ⟨cb, co, none⟩) c ci si d w7 HO.out (hn.keep (Keeps.of_below hA7)) hlen hsm HD.out hsi).mono ?_
                        rintro e w8 ⟨pb, rfl, hst8, hb8⟩
                        have hA8 := bt hA7 hb8
                        go_wp2_with fail
                        refine (unsettled_as (cutAt cs ci si d) LP nP w7.heap.size pb w8 HLP.out HnP.out hst8 (uok_cut hu HD.out) (HT.out w8 hA8)).mono ?_
                        rintro e w9 ⟨po, pc, rfl, hokP, hstP, hb9⟩
                        have hA9 := bt hA8 hb9
                        go_wp2_with fail
                        have RY9 := HRY2.out.later (bt hb7 (bt hb8 hb9))
                        refine (unsettled_as (cs.set ci ⟨d.n, insL d.ss si ad⟩) (LP ++ nm :: LR) (nP + nR + 1) 0 w9.heap.size _ HLF.out HnF.out (st_box' (by simp; omega) (by simp) RY9) HUF.out (HT.out _ (bt hA9 (ba _ _)))).mono ?_
                        rintro e w10 ⟨fo, fc, rfl, hokF, hstF, hb10⟩
                        have h9t := bt (ba w9 _) hb10
                        have hA10 := bt hA9 h9t
                        have hB10 := hstB.keep (bt hb8 (bt hb9 h9t))
                        have hP10 := hstP.keep h9t
                        have HSB := hid hokB
                        have HSP := hid hokP
                        have HSF := hid hokF
                        obtain ⟨ob1, ob2, ob3⟩ := hokB
                        obtain ⟨op1, op2, op3⟩ := hokP
                        obtain ⟨of1, of2, of3⟩ := hokF
                        unfold maxLen at ob2 op2 of2
                        clear hstB hstP hst8 hb7 hb8 hb9 hb10 h9t RY9 hA7 hA8 hA9 hstY hAY
                        go_wp2_with fail
                        refine (isPrefix_true (LP ++ LR) (nP + nR) nP po bo pc bc w10 HnB.out (by omega) HSP.out HSB.out (by rw [HTK.out]; exact hP10) hB10).mono ?_
                        rintro e w11 ⟨rfl, m, rfl⟩
                        have x10 := HBX.out w10 hA10
                        go_wp2_with fail
                        refine (zzsettled_any ad nao nc _ HO0.out (hn0.keep (Keeps.of_below (bt hA10 (bd w10 m)))) hsma).mono ?_
                        rintro e w12 ⟨rfl, hb12⟩
                        have h1012 := bt (bd w10 m) hb12
                        have hA12 := bt hA10 h1012
                        clear x10

                        go_wp2_with fail
                        obtain ⟨fb, fof, hfo, qb⟩ := (hstF.keep h1012) nP nm (by rw [← HnP.out]; simp)
                        subst hfo
                        have kc := cell_later hA12 HV.out.1
                        have ki : w12.cell? ⟨w.heap.size, 0, none⟩ = some (.int .i64 ad.i) := by rw [HBX.out w12 hA12]; rfl
                        have HN : Hid (∀ wx, Calls Tryd.prog 15 #[.string d.n, .int .i64 ad.i] wx fun e w' => e = .returned (.string nm) ∧ Below wx.heap.size wx w') := fun wx => by
                          rw [← HNM.out]
                          exact zzname_any d.n ad.i hn1 hia.1 hia.2 wx
                        have hc0 : (0 : Int) ≤ (ci : Int) := Int.natCast_nonneg _
                        have hc1 : (ci : Int) < (cs.length : Int) := by omega
                        have hp0 : (0 : Int) ≤ (nP : Int) := Int.natCast_nonneg _
                        have hp1 : (nP : Int) < (nP : Int) + (nR : Int) + 1 := by omega
                        have hp2 : (nP : Int) ≤ (nP : Int) + (nR : Int) := by omega
                        have hf1 : (nP : Int) ≤ (fc : Int) := by omega
                        have hf2 : (nP : Int) ≤ (bc : Int) := by omega
                        obtain ⟨bo2, bc2, hslB, hokB2, hB2⟩ := tail_slice bo (nP + nR) bc nP nR HSB.out rfl
                        obtain ⟨fo2, fc2, hslF, hokF2, hF2⟩ := tail_slice (some ⟨fb, fof, none⟩) (nP + nR + 1) fc (nP + 1) nR HSF.out (by omega)
                        have hslF' : ∀ w : World, (Instr.slice 45 (.slice (some ⟨fb, fof, none⟩) (nP + nR + 1) fc) (some (.int .i64 ((nP : Int) + 1))) none none).run Tryd.prog w = .ok (.slice fo2 nR fc2) w := hslF
                        have HE1 : Hid (∀ wx, Below w12.heap.size w12 wx → Calls Tryd.prog 14 #[.slice (some ⟨fb, fof, none⟩) nP fc, .slice bo nP bc] wx fun e w' => e = .returned (.bool true) ∧ ∃ m, w' = wx.drewN m) := fun wx hx => by
                          have t1 := ((hstF.keep (bt h1012 hx)).take (n := nP))
                          have t2 := ((hB10.keep (bt h1012 hx)).take (n := nP))
                          rw [HTK.out] at t2
                          rw [show (LP ++ nm :: LR).take nP = LP by rw [← HnP.out]; exact List.take_left] at t1
                          exact equal_true LP nP (some ⟨fb, fof, none⟩) bo fc bc wx HnP.out (HSF.out.cut (by omega)) (HSB.out.cut (by omega)) t1 t2
                        have HE2 : Hid (∀ wx, Below w12.heap.size w12 wx → Calls Tryd.prog 14 #[.slice fo2 nR fc2, .slice bo2 nR bc2] wx fun e w' => e = .returned (.bool true) ∧ ∃ m, w' = wx.drewN m) := fun wx hx => by
                          have t1 := hF2 wx _ HnF.out (hstF.keep (bt h1012 hx))
                          have t2 := hB2 wx _ HnB.out (hB10.keep (bt h1012 hx))
                          rw [show (LP ++ LR).drop nP = LR by rw [← HnP.out]; exact List.drop_left] at t2
                          rw [show (LP ++ nm :: LR).drop (nP + 1) = LR by rw [← HnP.out]; simp] at t1
                          exact equal_true LR nR fo2 bo2 fc2 bc2 wx HnR.out hokF2 hokB2 t1 t2
                        have hwr : IntKind.i64.wrap ((nP : Int) + 1) = (nP : Int) + 1 := IntWalk.i64_in _ (by omega)
                        have hb3 : (nP : Int) + 1 ≤ (nP : Int) + (nR : Int) + 1 := by omega
                        have hd0 : Below w12.heap.size w12 w12.drew := (Below.refl _ _).drew
                        clear hF2 hB2 hslF hstF hB10 hP10
                        go_region_held3 (fun w' => w'.cell? ⟨fb, fof + nP, none⟩ = some (.string nm) ∧ w'.cell? ⟨cb, co + ci * 2, none⟩ = some (.string d.n) ∧ w'.cell? ⟨w.heap.size, 0, none⟩ = some (.int .i64 ad.i))
                          (first | (go_keep; done) | (exact ⟨cell_later hb13 qb, cell_later hb13 kc, cell_later hb13 ki⟩) | (exact ⟨cell_later (bt hb13 (bd w13 _)) qb, cell_later (bt hb13 (bd w13 _)) kc, cell_later (bt hb13 (bd w13 _)) ki⟩) | (exact ⟨qb, kc, ki⟩))
                          (first | (go_at_call_of 14 (Value.slice (some ⟨fb, fof, none⟩) nP fc); refine (HE1.out _ (by exact hd0)).mono ?_; rintro e w14 ⟨rfl, m3, rfl⟩) | (go_at_call 15; refine (HN.out _).mono ?_; rintro e w13 ⟨rfl, hb13'⟩; have hb13 := undrewN hb13') | (go_at_call_of 14 (Value.slice fo2 nR fc2); refine (HE2.out _ (by exact hb13)).mono ?_; rintro e w15 ⟨rfl, m4, rfl⟩))
                        go_wp2_with fail
                        go_ret
                        exact ⟨rfl, HFIN.out _ _ HWA.out (bt hA12 (bt hb13 (bd w13 m4)))⟩
end Go.Proofs.Qxb6629213aDoor
