import Derived.Test.Qxb6629213aDoorLaws2
import Derived.Test.Qxb6629213aDoorW5
import Derived.Test.Qxb6629213aDoorW8
import Derived.Test.Qxb6629213aDoorW9
import Derived.Test.Qxb6629213aDoorW10
namespace Go.Proofs.Qxb6629213aDoor
open Go.RowKit
set_option linter.unusedVariables false
set_option linter.unusedSimpArgs false

theorem st_box {w : World} {ao : Option Addr} {c lo : Nat} {cs : List Cd} (hl : cs.length ≤ 1048576) (h : CdMade w lo ao c cs) : StAt (w.alloc (.cells #[.slice ao cs.length c] 37)) 0 w.heap.size cs := by
  obtain ⟨h1, h2⟩ := h.at (by omega)
  exact ⟨Nat.zero_le _, ao, c, by rw [World.cell?_alloc_at _ _ _ _ rfl]; rfl, h1, (h2.low (Nat.zero_le _)).keep (Keeps.of_below (below_alloc w _))⟩

set_option maxRecDepth 100000 in
set_option maxHeartbeats 4000000 in
theorem repair_any (cs : List Cd) (ao : Option Addr) (c : Nat) (x y : Int) (w : World) (hok : SlOk ao cs.length c) (hn : CdsAt w 0 ao cs) (hi : ∀ d ∈ cs, ∀ s ∈ d.ss, InI64 s.i) (htab : Lib.TabIs Tryd.prog w tabName .u64 Lib.pow10Tab) :
    Calls Tryd.prog 4 #[.slice ao cs.length c, .int .i64 x, .int .i64 y] w fun e w' => e = .returned (.bool true) ∧ Below w.heap.size w w' := by
  have HT := hid (Lib.tabBelow_of_tabIs htab)
  clear htab
  have HO := hid hok
  obtain ⟨ho1, ho2, ho3⟩ := hok
  unfold maxLen at ho2
  go_enter Tryd.func4, Tryd.ntmps4
  go_wp2_with fail
  refine (zzbytesRepair_any cs ao c x y w HO.out hn).mono ?_
  rintro e w0 ⟨b, rfl, rfl, hb⟩
  cases b with
  | false =>
    go_wp2_with fail
    go_ret
    exact ⟨rfl, Below.refl _ _⟩
  | true =>
    obtain ⟨hlen, hsm⟩ := hb rfl
    clear hb
    go_wp2_with fail
    refine (clustersBytes_any cs ao c 0 _ HO.out hn).mono ?_
    rintro e w1 ⟨t, rfl, hb1⟩
    by_cases ht : 1048576 < t
    · go_wp2_with fail
      go_ret
      exact ⟨rfl, hb1⟩
    · by_cases hx0 : x < 0
      · go_wp2_with fail
        go_ret
        exact ⟨rfl, hb1⟩
      · by_cases hx1 : (cs.length : Int) ≤ x
        · go_wp2_with fail
          go_ret
          exact ⟨rfl, hb1⟩
        · obtain ⟨ci, rfl⟩ : ∃ ci : Nat, x = ci := ⟨x.toNat, by omega⟩
          have hci : ci < cs.length := by omega
          obtain ⟨d, hd, hmem⟩ := get_lt hci
          obtain ⟨cb, co, he, -, q1, sao, sc, q2, hsok, hss⟩ := hn ci d hd
          cases he
          have g1 := cell_later hb1 q1
          have g2 := cell_later hb1 q2
          have HSO := hid hsok
          obtain ⟨so1, so2, so3⟩ := hsok
          unfold maxLen at so2
          clear hx0 hx1
          by_cases hy0 : y < 0
          · go_wp2_with fail
            go_ret
            exact ⟨rfl, hb1⟩
          · by_cases hy1 : (d.ss.length : Int) ≤ y
            · go_wp2_with fail
              go_ret
              exact ⟨rfl, hb1⟩
            · obtain ⟨si, rfl⟩ : ∃ si : Nat, y = si := ⟨y.toNat, by omega⟩
              have hsi : si < d.ss.length := by omega
              clear hy0 hy1
              obtain ⟨s, hs, hsmem⟩ := get_lt hsi
              have HD := hid hd
              have HS := hid hs
              clear hd hs
              go_wp2_with fail
              refine (clusters_any cs (some ⟨cb, co, none⟩) c w1 HO.out (hn.keep (Keeps.of_below hb1)) hlen hsm).mono ?_
              rintro e w2 ⟨ao1, c1, rfl, hm1, hb2⟩
              go_wp2_with fail
              have hA3 : Below w0.heap.size w0 (w2.alloc (.cells #[.slice ao1 cs.length c1] 37)) := (hb1.trans (hb2.mono hb1.size)).alloc (by have := hb1.size; have := hb2.size; omega) _
              have HST := hid (st_box hlen hm1)
              refine (clusters_any cs (some ⟨cb, co, none⟩) c _ HO.out (hn.keep (Keeps.of_below hA3)) hlen hsm).mono ?_
              rintro e w4 ⟨ao2, c2, rfl, hm2, hb4⟩
              have hA4 := hA3.trans (hb4.mono hA3.size)
              have g2' := cell_later hA4 q2
              clear g1 g2
              go_wp2_with fail
              refine (shards_any d.ss sao sc w4 HSO.out (hss.keep (Keeps.of_below hA4)) (hsm d hmem).2.1 (hsm d hmem).2.2).mono ?_
              rintro e w5 ⟨ao3, c3, rfl, hm3, hb5⟩
              have hA5 := hA4.trans (hb5.mono hA4.size)
              obtain ⟨sb, so, he, -, r1, r2, r3, r4, ⟨nao, nc, r5, nok, nn⟩, r8⟩ := hss si s HS.out
              cases he
              have p1 := cell_later hA5 r1
              have p2 := cell_later hA5 r2
              have p3 := cell_later hA5 r3
              have p4 := cell_later hA5 r4
              have p5 := cell_later hA5 r5
              have p8 := cell_later hA5 r8
              clear g2'
              go_wp2_with fail
              refine (shard_any s nao nc w5 nok (nn.keep (Keeps.of_below hA5)) ((hsm d hmem).2.2 s hsmem)).mono ?_
              rintro e w6 ⟨ao4, c4, rfl, hok4, hn4, hb6⟩
              have hA6 := hA5.trans (hb6.mono hA5.size)
              have k1 := cell_later hA6 q1
              clear p1 p2 p3 p4 p5 p8
              rcases hm2 with ⟨-, -, rfl⟩ | ⟨gg2, cur2, rfl, rfl, hlo2, hcur2, hcs2, hrow2⟩
              · simp at hci
              rcases hm3 with ⟨-, -, hnil⟩ | ⟨gg3, cur3, rfl, rfl, hlo3, hcur3, hcs3, hrow3⟩
              · rw [hnil] at hsi; simp at hsi
              have e3 := (hb6.block _ (lt_of_block hcur3)).trans hcur3
              have e2 := (hb6.block _ (Nat.lt_of_lt_of_le (lt_of_block hcur2) hb5.size)).trans ((hb5.block _ (lt_of_block hcur2)).trans hcur2)
              have l3 := lt_of_block e3
              have l2 := lt_of_block e2
              have l23 : gg2 < gg3 := Nat.lt_of_lt_of_le (lt_of_block hcur2) hlo3
              have HTH3 := hid (there_row (o := si * 6) (n := 6) e3 (by omega))
              have hge2 : w0.heap.size ≤ gg2 := Nat.le_trans hA3.size hlo2
              have HP := hid (And.intro hlo2 (And.intro hlo3 (And.intro hcs2 (And.intro hcs3 (And.intro hrow2 (And.intro hrow3 (And.intro hcur2 (And.intro hcur3 (And.intro e2 e3)))))))))
              have HQ := hid (And.intro hb1 (And.intro hb2 (And.intro hA3 (And.intro hb4 (And.intro hA4 (And.intro hb5 (And.intro hA5 (And.intro hb6 hA6))))))))
              have HR := hid (And.intro hm1 (And.intro hok4 hn4))
              have HU := hid (And.intro r1 (And.intro r2 (And.intro r3 (And.intro r4 (And.intro r5 r8)))))
              have HV := hid (And.intro nok (And.intro nn (And.intro q1 q2)))
              clear hlo2 hlo3 hcs2 hcs3 hrow2 hrow3 hcur2 hcur3 e2 e3 hb1 hb2 hA3 hb4 hA4 hb5 hA5 hb6 hA6 hm1 hok4 hn4 r1 r2 r3 r4 r5 r8 nok nn q1 q2
              have HFX : Hid (∀ X A, X = putCells gg3 ((w6.alloc A).alloc (.cells #[.string ⟨#[]⟩, .string ⟨#[]⟩, .string ⟨#[109, 97, 115, 116, 101, 114]⟩, .string ⟨#[]⟩] 54)) (si * 6) [.int .i64 s.i, .int .i64 s.f, .int .i64 s.t, .int .i64 0, .slice (some ⟨w6.heap.size + 1, 0, none⟩) 1 1, .int .u64 s.o] →
                  X.cell? ⟨cb, co + ci * 2, none⟩ = some (.string d.n) ∧ X.there gg2 (ci * 2) 2 ∧ SdRow X gg3 (d.ss.set si (fixed s)) d.ss.length ∧ Below w4.heap.size w4 X) := by
                intro X A hX
                obtain ⟨hlo2, hlo3, hcs2, hcs3, hrow2, hrow3, hcur2, hcur3, e2, e3⟩ := HP.out
                obtain ⟨hb1, hb2, hA3, hb4, hA4, hb5, hA5, hb6, hA6⟩ := HQ.out
                obtain ⟨RX, hbX⟩ := rep_X hX hcur3 hcs3 hrow3 HS.out hlo3 hb5 hb6
                have hAX := hA4.trans (hbX.mono hA4.size)
                have e2X := (hbX.block _ (lt_of_block hcur2)).trans hcur2
                exact ⟨cell_later hAX HV.out.2.2.1, there_row e2X (by omega), RX, hbX⟩
              clear l2 l3
              go_wp2_with (first | ((with_reducible refine store_row ?_ 41 (.tmp 69) (.tmp 68) ?_ gg3 (si * 6) #[.int .i64 s.i, .int .i64 s.f, .int .i64 s.t, .int .i64 0, .slice (some ⟨w6.heap.size + 1, 0, none⟩) 1 1, .int .u64 s.o] ?_ ?_ ?_ ?_ ?_ ?_); rfl; rfl; rfl; rfl; exact World.there_alloc (World.there_alloc HTH3.out _) _; exact size41; exact one6 _ _ _ _ _ _ _ _; intro X hX; obtain ⟨kX, thX, hRX, hBX⟩ := HFX.out X _ hX; have HTX := hid thX; have HRX := hid hRX; have HBX := hid hBX; clear k1 hX thX hRX hBX) | ((with_reducible refine store_row ?_ 44 (.tmp 79) (.tmp 78) ?_ gg2 (ci * 2) #[.string d.n, .slice (some ⟨gg3, 0, none⟩) d.ss.length d.ss.length] ?_ ?_ ?_ ?_ ?_ ?_); rfl; rfl; rfl; rfl; exact HTX.out; exact size44; exact one2 _ _ _ _; intro Y hY; have HY := hid hY; clear hY kX))
              obtain ⟨hlo2, hlo3, hcs2, hcs3, hrow2, hrow3, hcur2, hcur3, e2, e3⟩ := HP.out
              obtain ⟨hb1, hb2, hA3, hb4, hA4, hb5, hA5, hb6, hA6⟩ := HQ.out
              have hsl : (d.ss.set si (fixed s)).length = d.ss.length := by simp
              have hRX := HRX.out
              rw [← hsl] at hRX
              have RY := set_cluster (ci := ci) hlo3 hcur2 hcs2 hrow2 (fun b hb => HBX.out.block b hb) hRX (by rw [hsl]; have := (hsm d hmem).2.1; omega) HD.out
              rw [hsl, ← HY.out] at RY
              have h3Y : Below (w2.alloc (.cells #[.slice ao1 cs.length c1] 37)).heap.size (w2.alloc (.cells #[.slice ao1 cs.length c1] 37)) Y := by
                rw [HY.out]
                exact put_below (hb4.trans (HBX.out.mono hb4.size)) hlo2 _ _
              have hAY := hA3.trans (h3Y.mono hA3.size)
              have hstY := HST.out.later h3Y
              have hu := uok_cs hlen hsm hi
              have hn1 := (hsm d hmem).1
              have HRY := hid RY
              clear hlo2 hlo3 hcs2 hcs3 hrow2 hrow3 hcur2 hcur3 e2 e3 hb1 hb2 hA3 hb4 hA4 hb5 hA5 hb6 hA6 hRX RY h3Y hsl
              obtain ⟨LP, HLP⟩ : ∃ L, Hid (unset (cutAt cs ci si d) = L) := ⟨_, rfl⟩
              obtain ⟨LR, HLR⟩ : ∃ L, Hid (postL cs ci (si + 1) d = L) := ⟨_, rfl⟩
              obtain ⟨nP, HnP⟩ : ∃ n, Hid (LP.length = n) := ⟨_, rfl⟩
              obtain ⟨nR, HnR⟩ : ∃ n, Hid (LR.length = n) := ⟨_, rfl⟩
              have hpre : preL cs ci si d = LP := by rw [← unset_cut]; exact HLP.out
              have hF : unset (cs.set ci ⟨d.n, d.ss.set si (fixed s)⟩) = LP ++ LR := by rw [unset_repair HD.out HS.out, hpre, HLR.out]
              have hB := unset_on HD.out HS.out
              rw [hpre, HLR.out] at hB
              by_cases hset : setd s = true
              · rw [if_pos hset, List.nil_append] at hB
                have HLB := hid hB
                have HLF := hid hF
                have HnB := hid (show (LP ++ LR).length = nP + nR by rw [List.length_append, HnP.out, HnR.out])
                have HTK := hid (show (LP ++ LR).take nP = LP by rw [← HnP.out]; exact List.take_left)
                clear hB hF hpre
                refine (unsettled_as cs (LP ++ LR) (nP + nR) 0 w2.heap.size Y HLB.out HnB.out hstY hu (HT.out Y hAY)).mono ?_
                rintro e w7 ⟨bo, bc, rfl, hokB, hstB, hb7⟩
                have hA7 := bt hAY hb7
                go_wp2_with fail
                refine (prefixStatus_any cs (some ⟨cb, co, none⟩) c ci si d w7 HO.out (hn.keep (Keeps.of_below hA7)) hlen hsm HD.out (by omega)).mono ?_
                rintro e w8 ⟨pb, rfl, hst8, hb8⟩
                have hA8 := bt hA7 hb8
                go_wp2_with fail
                refine (unsettled_as (cutAt cs ci si d) LP nP w7.heap.size pb w8 HLP.out HnP.out hst8 (uok_cut hu HD.out) (HT.out w8 hA8)).mono ?_
                rintro e w9 ⟨po, pc, rfl, hokP, hstP, hb9⟩
                have hA9 := bt hA8 hb9
                go_wp2_with fail
                have RY9 := HRY.out.later (bt hb7 (bt hb8 hb9))
                refine (unsettled_as (cs.set ci ⟨d.n, d.ss.set si (fixed s)⟩) (LP ++ LR) (nP + nR) 0 w9.heap.size _ HLF.out HnB.out (st_box' (by simp; omega) (by simp) RY9) (uok_fixed hu HD.out HS.out) (HT.out _ (bt hA9 (ba _ _)))).mono ?_
                rintro e w10 ⟨fo, fc, rfl, hokF, hstF, hb10⟩
                have h9t := bt (ba w9 _) hb10
                have hA10 := bt hA9 h9t
                have hB10 := hstB.keep (bt hb8 (bt hb9 h9t))
                have hP10 := hstP.keep h9t
                have HSB := hid hokB
                have HSP := hid hokP
                have HSF := hid hokF
                obtain ⟨ob1, ob2, ob3⟩ := hokB
                obtain ⟨op1, op2, op3⟩ := hokP
                obtain ⟨of1, of2, of3⟩ := hokF
                unfold maxLen at ob2 op2 of2
                clear hstB hstP hst8 hb7 hb8 hb9 hb10 h9t RY9 hA7 hA8 hA9 hstY hAY
                go_wp2_with fail
                refine (isPrefix_true (LP ++ LR) (nP + nR) nP po bo pc bc w10 HnB.out (by omega) HSP.out HSB.out (by rw [HTK.out]; exact hP10) hB10).mono ?_
                rintro e w11 ⟨rfl, m, rfl⟩
                have p1 := cell_later hA10 HU.out.1
                have p2 := cell_later hA10 HU.out.2.1
                have p3 := cell_later hA10 HU.out.2.2.1
                have p4 := cell_later hA10 HU.out.2.2.2.1
                have p5 := cell_later hA10 HU.out.2.2.2.2.1
                have p8 := cell_later hA10 HU.out.2.2.2.2.2
                go_wp2_with fail
                refine (zzsettled_any s nao nc _ HV.out.1 (HV.out.2.1.keep (Keeps.of_below (bt hA10 (bd w10 m)))) ((hsm d hmem).2.2 s hsmem)).mono ?_
                rintro e w12 ⟨rfl, hb12⟩
                have h1012 := bt (bd w10 m) hb12
                have hA12 := bt hA10 h1012
                go_wp2_with fail
                refine (equal_true (LP ++ LR) (nP + nR) fo bo fc bc w12 HnB.out HSF.out HSB.out (hstF.keep h1012) (hB10.keep h1012)).mono ?_
                rintro e w13 ⟨rfl, m2, rfl⟩
                go_wp2_with fail
                go_ret
                exact ⟨rfl, bt hA12 (bd w12 m2)⟩
              · have hset' : setd s = false := by simpa using hset
                rw [if_neg hset] at hB
                obtain ⟨nm, HNM⟩ : ∃ x, Hid (nameOf d.n s.i = x) := ⟨_, rfl⟩
                rw [HNM.out, List.singleton_append] at hB
                have HLB := hid hB
                have HLF := hid hF
                have HnB := hid (show (LP ++ nm :: LR).length = nP + nR + 1 by rw [List.length_append, List.length_cons, HnP.out, HnR.out]; omega)
                have HnF := hid (show (LP ++ LR).length = nP + nR by rw [List.length_append, HnP.out, HnR.out])
                have HTK := hid (show (LP ++ nm :: LR).take nP = LP by rw [← HnP.out]; exact List.take_left)
                clear hB hF hpre hset
                refine (unsettled_as cs (LP ++ nm :: LR) (nP + nR + 1) 0 w2.heap.size Y HLB.out HnB.out hstY hu (HT.out Y hAY)).mono ?_
                rintro e w7 ⟨bo, bc, rfl, hokB, hstB, hb7⟩
                have hA7 := bt hAY hb7
                go_wp2_with fail
                refine (prefixStatus_any cs (some ⟨cb, co, none⟩) c ci si d w7 HO.out (hn.keep (Keeps.of_below hA7)) hlen hsm HD.out (by omega)).mono ?_
                rintro e w8 ⟨pb, rfl, hst8, hb8⟩
                have hA8 := bt hA7 hb8
                go_wp2_with fail
                refine (unsettled_as (cutAt cs ci si d) LP nP w7.heap.size pb w8 HLP.out HnP.out hst8 (uok_cut hu HD.out) (HT.out w8 hA8)).mono ?_
                rintro e w9 ⟨po, pc, rfl, hokP, hstP, hb9⟩
                have hA9 := bt hA8 hb9
                go_wp2_with fail
                have RY9 := HRY.out.later (bt hb7 (bt hb8 hb9))
                refine (unsettled_as (cs.set ci ⟨d.n, d.ss.set si (fixed s)⟩) (LP ++ LR) (nP + nR) 0 w9.heap.size _ HLF.out HnF.out (st_box' (by simp; omega) (by simp) RY9) (uok_fixed hu HD.out HS.out) (HT.out _ (bt hA9 (ba _ _)))).mono ?_
                rintro e w10 ⟨fo, fc, rfl, hokF, hstF, hb10⟩
                have h9t := bt (ba w9 _) hb10
                have hA10 := bt hA9 h9t
                have hB10 := hstB.keep (bt hb8 (bt hb9 h9t))
                have hP10 := hstP.keep h9t
                have HSB := hid hokB
                have HSP := hid hokP
                have HSF := hid hokF
                obtain ⟨ob1, ob2, ob3⟩ := hokB
                obtain ⟨op1, op2, op3⟩ := hokP
                obtain ⟨of1, of2, of3⟩ := hokF
                unfold maxLen at ob2 op2 of2
                clear hstB hstP hst8 hb7 hb8 hb9 hb10 h9t RY9 hA7 hA8 hA9 hstY hAY
                go_wp2_with fail
                refine (isPrefix_true (LP ++ nm :: LR) (nP + nR + 1) nP po bo pc bc w10 HnB.out (by omega) HSP.out HSB.out (by rw [HTK.out]; exact hP10) hB10).mono ?_
                rintro e w11 ⟨rfl, m, rfl⟩
                have p1 := cell_later hA10 HU.out.1
                have p2 := cell_later hA10 HU.out.2.1
                have p3 := cell_later hA10 HU.out.2.2.1
                have p4 := cell_later hA10 HU.out.2.2.2.1
                have p5 := cell_later hA10 HU.out.2.2.2.2.1
                have p8 := cell_later hA10 HU.out.2.2.2.2.2
                go_wp2_with fail
                refine (zzsettled_any s nao nc _ HV.out.1 (HV.out.2.1.keep (Keeps.of_below (bt hA10 (bd w10 m)))) ((hsm d hmem).2.2 s hsmem)).mono ?_
                rintro e w12 ⟨rfl, hb12⟩
                have h1012 := bt (bd w10 m) hb12
                have hA12 := bt hA10 h1012
                go_wp2_with fail
                obtain ⟨bb, bof, hbo, qb⟩ := (hB10.keep h1012) nP nm (by rw [← HnP.out]; simp)
                subst hbo
                have kc := cell_later hA12 HV.out.2.2.1
                have ki := cell_later hA12 HU.out.1
                have HN : Hid (∀ wx, Calls Tryd.prog 15 #[.string d.n, .int .i64 s.i] wx fun e w' => e = .returned (.string nm) ∧ Below wx.heap.size wx w') := fun wx => by
                  rw [← HNM.out]
                  exact zzname_any d.n s.i hn1 (hi d hmem s hsmem).1 (hi d hmem s hsmem).2 wx
                have hc0 : (0 : Int) ≤ (ci : Int) := Int.natCast_nonneg _
                have hc1 : (ci : Int) < (cs.length : Int) := by omega
                have hs0 : (0 : Int) ≤ (si : Int) := Int.natCast_nonneg _
                have hs1 : (si : Int) < (d.ss.length : Int) := by omega
                have hp0 : (0 : Int) ≤ (nP : Int) := Int.natCast_nonneg _
                have hp1 : (nP : Int) < (nP : Int) + (nR : Int) + 1 := by omega
                have hf1 : (nP : Int) ≤ (fc : Int) := by omega
                have hf2 : (nP : Int) ≤ (bc : Int) := by omega
                obtain ⟨fo2, fc2, hslF, hokF2, hF2⟩ := tail_slice fo (nP + nR) fc nP nR HSF.out rfl
                obtain ⟨bo2, bc2, hslB, hokB2, hB2⟩ := tail_slice (some ⟨bb, bof, none⟩) (nP + nR + 1) bc (nP + 1) nR HSB.out (by omega)
                have hslB' : ∀ w : World, (Instr.slice 45 (.slice (some ⟨bb, bof, none⟩) (nP + nR + 1) bc) (some (.int .i64 ((nP : Int) + 1))) none none).run Tryd.prog w = .ok (.slice bo2 nR bc2) w := hslB
                have HE1 : Hid (∀ wx, Below w12.heap.size w12 wx → Calls Tryd.prog 14 #[.slice fo nP fc, .slice (some ⟨bb, bof, none⟩) nP bc] wx fun e w' => e = .returned (.bool true) ∧ ∃ m, w' = wx.drewN m) := fun wx hx => by
                  have t1 := ((hstF.keep (bt h1012 hx)).take (n := nP))
                  have t2 := ((hB10.keep (bt h1012 hx)).take (n := nP))
                  rw [HTK.out] at t2
                  rw [show (LP ++ LR).take nP = LP by rw [← HnP.out]; exact List.take_left] at t1
                  exact equal_true LP nP fo (some ⟨bb, bof, none⟩) fc bc wx HnP.out (HSF.out.cut (by omega)) (HSB.out.cut (by omega)) t1 t2
                have HE2 : Hid (∀ wx, Below w12.heap.size w12 wx → Calls Tryd.prog 14 #[.slice fo2 nR fc2, .slice bo2 nR bc2] wx fun e w' => e = .returned (.bool true) ∧ ∃ m, w' = wx.drewN m) := fun wx hx => by
                  have t1 := hF2 wx _ HnF.out (hstF.keep (bt h1012 hx))
                  have t2 := hB2 wx _ HnB.out (hB10.keep (bt h1012 hx))
                  rw [show (LP ++ LR).drop nP = LR by rw [← HnP.out]; exact List.drop_left] at t1
                  rw [show (LP ++ nm :: LR).drop (nP + 1) = LR by rw [← HnP.out]; simp] at t2
                  exact equal_true LR nR fo2 bo2 fc2 bc2 wx HnR.out hokF2 hokB2 t1 t2
                have hwr : IntKind.i64.wrap ((nP : Int) + 1) = (nP : Int) + 1 := IntWalk.i64_in _ (by omega)
                have hb3 : (nP : Int) + 1 ≤ (nP : Int) + (nR : Int) + 1 := by omega
                clear p1 p2 p3 p4 p5 p8 hF2 hB2 hslB hstF hB10 hP10
                go_region_held3 (fun w' => w'.cell? ⟨bb, bof + nP, none⟩ = some (.string nm) ∧ w'.cell? ⟨cb, co + ci * 2, none⟩ = some (.string d.n) ∧ w'.cell? ⟨sb, so + si * 6, none⟩ = some (.int .i64 s.i))
                  (first | (go_keep; done) | (exact ⟨cell_later hb13 qb, cell_later hb13 kc, cell_later hb13 ki⟩) | (exact ⟨cell_later (bt hb13 (bd w13 _)) qb, cell_later (bt hb13 (bd w13 _)) kc, cell_later (bt hb13 (bd w13 _)) ki⟩))
                  (first | (go_at_call 15; refine (HN.out _).mono ?_; rintro e w13 ⟨rfl, hb13'⟩; have hb13 := below_undrew hb13') | (go_at_call_of 14 (Value.slice fo nP fc); refine (HE1.out _ (by exact hb13)).mono ?_; rintro e w14 ⟨rfl, m3, rfl⟩) | (go_at_call_of 14 (Value.slice fo2 nR fc2); refine (HE2.out _ (by exact bt hb13 (bd w13 m3))).mono ?_; rintro e w15 ⟨rfl, m4, rfl⟩))
                go_wp2_with fail
                go_ret
                exact ⟨rfl, bt hA12 (bt hb13 (bd w13 (m3 + m4)))⟩
end Go.Proofs.Qxb6629213aDoor
