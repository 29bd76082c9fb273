import Derived.Test.Qxb6629335aDivL
namespace Go.Proofs.Qxb6629335a
open Go.RowKit
set_option linter.unusedVariables false
set_option linter.unusedSimpArgs false

theorem owns_conv {wr : World} {base g cap : Nat} {ol : List Nat} (h : wr.ownsRow base 5 1 (.slice (some ⟨g, 0, none⟩) ol.length cap) ol.length (ol.map vI)) :
    (convert 22 9 (.slice (some ⟨g, 0, none⟩) ol.length cap)).run Try.prog wr = .ok (.string (strOfNums (ol.map fun (n : Nat) => (n : Int)))) wr := by
  refine run_convert_bytes_arg wr 22 5 Try.underlying22 Try.underlying5 g 0 ol.length cap _ (by simp) ?_ 9 Try.underlying9
  intro i hi
  rw [Nat.zero_add, h.cellAt i (by omega)]
  simp only [List.getD_eq_getElem?_getD, List.getElem?_map, List.getElem?_eq_getElem (show i < ol.length by omega), Option.map_some, Option.getD_some]
  rfl

set_option maxRecDepth 10000 in
set_option maxHeartbeats 4000000 in
theorem divModel_any (xs : List Nat) (ao : Option Addr) (c : Nat) (w : World) (hok : SlOk ao xs.length c) (hb : BsAt w ao xs) (hlt : ∀ x ∈ xs, x < 256) (hlen : xs.length ≤ 4097) :
    Calls Try.prog 7 #[.slice ao xs.length c] w fun e w' => e = .returned (.string (encS xs)) ∧ Below w.heap.size w w' := by
  have HOK := hid hok
  obtain ⟨ho1, ho2, ho3⟩ := hok
  unfold maxLen at ho2
  go_enter Try.func7, Try.ntmps7
  go_wp2_with fail
  go_loop [4] (fun i => ∃ z : Nat, z ≤ xs.length ∧ i = .int .i64 z ∧ ∀ i, i < z → xs[i]? = some 0) (fun i => xs.length - (intOf i).toNat)
  case atStart => exact ⟨0, Nat.zero_le _, rfl, fun i hi => absurd hi (Nat.not_lt_zero _)⟩
  case round =>
    obtain ⟨z, hz, rfl, hall⟩ := hrel
    have HAL := hid hall
    clear hall
    have key : (∃ x, xs[z]? = some x ∧ x = 0) ∨ (∀ y, xs[z]? = some y → y ≠ 0) := by
      cases h : xs[z]? with
      | none => exact Or.inr fun y hy => by cases hy
      | some x =>
        by_cases h0 : x = 0
        · exact Or.inl ⟨x, rfl, h0⟩
        · exact Or.inr fun y hy => by cases hy; exact h0
    rcases key with ⟨x, hx, rfl⟩ | hno
    · have hzl : z < xs.length := (List.getElem?_eq_some_iff.1 hx).1
      obtain ⟨b, o, he, hc⟩ := hb z 0 hx
      cases he
      have HX := hid hx
      clear hx
      go_wp2_with fail
      go_round
      case rel => exact ⟨z + 1, by omega, by go_num, fun i hi => by
        rcases Nat.lt_succ_iff_lt_or_eq.1 hi with h | rfl
        · exact HAL.out i h
        · exact HX.out⟩
      case measure => simp [intOf]; omega
    · have HZ := hid (lz_of xs z HAL.out hno)
      have hcase : (z < xs.length ∧ ∃ b o x, ao = some ⟨b, o, none⟩ ∧ w.cell? ⟨b, o + z, none⟩ = some (.int .u8 (x : Int)) ∧ ((x : Int) == 0) = false) ∨ ¬ z < xs.length := by
        by_cases h : z < xs.length
        · obtain ⟨x, hx, _⟩ := get_lt h
          obtain ⟨b, o, he, hc⟩ := hb z x hx
          exact Or.inl ⟨h, b, o, x, he, hc, by rw [beq_eq_false_iff_ne]; have := hno x hx; omega⟩
        · exact Or.inr h
      have HNO := hid (show ∀ y, (xs.drop z)[0]? = some y → y ≠ 0 from fun y hy => hno y (by rw [List.getElem?_drop] at hy; simpa using hy))
      obtain ⟨m, HM⟩ : ∃ m, Hid (xs.length = z + m) := ⟨xs.length - z, by show xs.length = z + (xs.length - z); omega⟩
      have hm : m ≤ 4097 := by have := HM.out; omega
      have hmz : (xs.length : Int) - z = m := by have := HM.out; omega
      have HYL := hid (show (xs.drop z).length = m by have := HM.out; rw [List.length_drop]; omega)
      clear hno
      rcases hcase with ⟨hzl, b, o, x, rfl, hc, hx0⟩ | hzl
      · go_wp2_with (at_make; refine make_row rfl _ _ 22 rfl 5 _ 1 1 Try.underlying22 info5 _ _ _ _ m rfl rfl ?b0P ?b1P ?b2P ?b3P ?_)
        case b0P => omega
        case b1P => omega
        case b2P => omega
        case b3P => unfold maxLen; omega
        intro w1 cur1 hcur1 hcs1 hb1
        obtain ⟨tg, HTG⟩ : ∃ f : Nat → Nat, Hid (f = fun j => (xs.drop z).getD j 0) := ⟨_, rfl⟩
        have HO1 : Hid (OutAt w w1 m tg (fun j => j < 0)) := ⟨⟨cur1, hcur1, by omega, fun j _ h => absurd h (Nat.not_lt_zero _)⟩, hb1⟩
        clear hcur1 hcs1 hb1
        go_wp2_with fail
        go_loopw [7] (fun i wr => ∃ k : Nat, k ≤ m ∧ i = .int .i64 k ∧ OutAt w wr m tg (fun j => j < k)) (fun i _ => m - (intOf i).toNat)
        case atStart => exact ⟨0, Nat.zero_le _, rfl, HO1.out⟩
        case round =>
          obtain ⟨k, hk, rfl, ho⟩ := hrel
          have HO := hid ho
          have hfr := ho.frozen
          by_cases hkm : k < m
          · obtain ⟨v0, hv0⟩ := ho.there (j := k) hkm
            obtain ⟨y, hy, hym⟩ := get_lt (show k < (xs.drop z).length by rw [HYL.out]; exact hkm)
            obtain ⟨b2, o2, he2, hc2⟩ := hb (z + k) y (by rw [List.getElem?_drop] at hy; exact hy)
            cases he2
            have g2 := cell_later ho.2 hc2
            have HY := hid (show tg k = y by rw [HTG.out]; simp [List.getD_eq_getElem?_getD, hy])
            have hzk : z + k < xs.length := by have := HM.out; omega
            clear ho hy
            go_wp2_with fail
            go_roundw
            case rel => exact ⟨k + 1, by omega, by go_num, HO.out.put (by rw [HY.out]) (fun i hi => by omega)⟩
            case measure => simp [intOf]; omega
          · have HR0 : Hid (RowIs wr w.heap.size (xs.drop z)) := by
              obtain ⟨⟨cur, a1, a2, a3⟩, a4⟩ := HO.out
              refine ⟨cur, a1, by rw [HYL.out]; exact a2, fun j x hx => ?_⟩
              have hj : j < m := by have := (List.getElem?_eq_some_iff.1 hx).1; rw [HYL.out] at this; exact this
              have h1 := a3 j hj (by omega)
              rw [HTG.out] at h1
              simpa [List.getD_eq_getElem?_getD, hx] using h1
            have hBw := HO.out.2
            clear ho hfr
            obtain ⟨w2, rfl⟩ : ∃ x, x = wr := ⟨wr, rfl⟩
            go_wp2_with (at_make; refine make_own rfl _ _ 22 rfl 5 _ 1 1 Try.underlying22 info5 _ _ _ (2 * m + 1) rfl rfl ?c0P ?c1P ?c2P ?_)
            case c0P => omega
            case c1P => omega
            case c2P => unfold maxLen; omega
            intro w3 hown3 hb3
            have hgN : w.heap.size < w2.heap.size := HR0.out.lt
            have HST : Hid (RowIs w3 w.heap.size (xs.drop z) ∧ Below w.heap.size w w3) := ⟨HR0.out.keep (hb3.block _ hgN), bt hBw hb3⟩
            go_wp2_with fail
            go_loopw [9, 10, 8] (fun s9 s10 v wr => ∃ (st g cap : Nat) (nl ds : List Nat), s9 = .int .i64 st ∧ s10 = .int .i64 ds.length ∧ v = .slice (some ⟨g, 0, none⟩) ds.length cap ∧ st ≤ m ∧ nl.length = m ∧ (∀ x ∈ nl, x < 256) ∧ Zs nl st ∧ (∀ y, nl[st]? = some y → y ≠ 0) ∧ RowIs wr w.heap.size nl ∧ wr.ownsRow w2.heap.size 5 1 (.slice (some ⟨g, 0, none⟩) ds.length cap) ds.length (ds.map fun d => vI (alpha d)) ∧ ds ++ D 58 (val 256 nl) = D 58 (val 256 (xs.drop z)) ∧ Below w.heap.size w wr)
              (fun _ s10 _ _ => (2 * m + 1) - (intOf s10).toNat)
            case atStart => exact ⟨0, w2.heap.size, _, xs.drop z, [], rfl, rfl, rfl, Nat.zero_le _, HYL.out, fun x hx => hlt x (List.mem_of_mem_drop hx), fun i hi => absurd hi (Nat.not_lt_zero _), HNO.out, HST.out.1, hown3, by simp, HST.out.2⟩
            case round =>
              obtain ⟨st, g, cap, nl, ds, rfl, rfl, rfl, hst, hnl, h256, hzs, hnz, hrow, hown, heq, hbl⟩ := hrel
              have HL := hid hnl
              have HEQ := hid heq
              have HZS := hid hzs
              have HNZ := hid hnz
              clear hnl heq hzs hnz
              have HV0 := hid (show (D 58 (val 256 (xs.drop z))).length ≤ 2 * m by
                have h1 : val 256 (xs.drop z) < 256 ^ (xs.drop z).length := val_lt (by omega) _ fun d hd => hlt d (List.mem_of_mem_drop hd)
                have h2 := D_length h1
                rw [HYL.out] at h2
                exact h2)
              have hps : ds.length ≤ 2 * m := by have h1 := congrArg List.length HEQ.out; rw [List.length_append] at h1; have := HV0.out; omega
              have hdl : ds.length ≤ 8194 := by omega
              by_cases hsm : st < m
              · obtain ⟨y0, hy0, -⟩ := get_lt (show st < nl.length by rw [HL.out]; exact hsm)
                have HVP := hid (HZS.out.pos hy0 (HNZ.out y0 hy0))
                clear hy0
                go_wp2_with fail
                go_loopw [12, 11] (fun s12 s11 wr => ∃ (j r : Nat) (np : List Nat), st ≤ j ∧ j ≤ m ∧ s12 = .int .i64 j ∧ s11 = .int .i64 r ∧ r < 58 ∧ np.length = j - st ∧ RowIs wr w.heap.size (nl.take st ++ np ++ nl.drop j) ∧ np ++ divq r (nl.drop j) = divq 0 (nl.drop st) ∧ divr r (nl.drop j) = divr 0 (nl.drop st) ∧ wr.ownsRow w2.heap.size 5 1 (.slice (some ⟨g, 0, none⟩) ds.length cap) ds.length (ds.map fun d => vI (alpha d)) ∧ Below w.heap.size w wr)
                  (fun s12 _ _ => m - (intOf s12).toNat)
                case atStart => exact ⟨st, 0, [], Nat.le_refl _, hst, rfl, rfl, by omega, by simp, by simpa using hrow, by simp, rfl, hown, hbl⟩
                case round =>
                  obtain ⟨j, r, np, hj0, hj, rfl, rfl, hr, hnpl, hrw, heq2, heq3, hown2, hbl2⟩ := hrel
                  have HNP := hid hnpl
                  have HE2 := hid heq2
                  have HE3 := hid heq3
                  have HRW := hid hrw
                  clear hnpl heq2 heq3
                  by_cases hjm : j < m
                  · obtain ⟨y, hy, hym⟩ := get_lt (show j < nl.length by rw [HL.out]; exact hjm)
                    have hy256 : y < 256 := h256 y hym
                    have hdrop : nl.drop j = y :: nl.drop (j + 1) := by
                      have he := (List.getElem?_eq_some_iff.1 hy).2
                      rw [← he, List.getElem_cons_drop]
                    have hlp : (nl.take st ++ np).length = j := by rw [List.length_append, List.length_take, HL.out, HNP.out]; omega
                    have hcell := hrw.cell (j := j) (x := y) (by rw [List.getElem?_append_right (by omega), hlp, hdrop, Nat.sub_self]; rfl)
                    have hfr := hrw.frozen
                    have HDR := hid hdrop
                    have HLP := hid hlp
                    clear hdrop hlp hrw hy
                    go_wp2_with fail
                    go_roundw
                    case rel =>
                      refine ⟨j + 1, (r * 256 + y) % 58, np ++ [(r * 256 + y) / 58], by omega, by omega, by go_num, by go_num, by omega, by rw [List.length_append, HNP.out]; simp; omega, ?_, ?_, ?_, ?_, ?_⟩
                      · have h1 := HRW.out.put (j := j) (x := (r * 256 + y) / 58) (v := ((r : Int) * 256 + y) / 58) (by omega)
                        have e1 : (nl.take st ++ np ++ nl.drop j).set j ((r * 256 + y) / 58) = nl.take st ++ (np ++ [(r * 256 + y) / 58]) ++ nl.drop (j + 1) := by
                          rw [HDR.out, List.set_append_right _ _ (by rw [HLP.out]; omega), HLP.out, Nat.sub_self]
                          simp
                        rw [e1] at h1
                        exact h1
                      · rw [← HE2.out, HDR.out, divq]
                        simp
                      · rw [← HE3.out, HDR.out, divr]
                      · exact ownsRow_setCell_below hown2 (a := ⟨w.heap.size, j, none⟩) hgN _
                      · exact hbl2.setCell (p := ⟨w.heap.size, j, none⟩) (Nat.le_refl _) _
                    case measure => simp [intOf]; omega
                  · have HND := hid (show nl.drop j = [] from List.drop_eq_nil_of_le (by rw [HL.out]; omega))
                    have HNPE := hid (show np = divq 0 (nl.drop st) by have := HE2.out; rw [HND.out, divq, List.append_nil] at this; exact this)
                    have HRE := hid (show r = divr 0 (nl.drop st) by have := HE3.out; rw [HND.out, divr] at this; exact this)
                    obtain ⟨nq, HNQ⟩ : ∃ q, Hid (q = nl.take st ++ np) := ⟨_, rfl⟩
                    have HQ := hid (show RowIs wr w.heap.size nq by have := HRW.out; rw [HND.out, List.append_nil] at this; rw [HNQ.out]; exact this)
                    have HQL := hid (show nq.length = m by rw [HNQ.out, List.length_append, List.length_take, HL.out, HNP.out]; omega)
                    have HQV := hid (show val 256 nq = val 256 nl / 58 ∧ r = val 256 nl % 58 by rw [HNQ.out, HNPE.out, HRE.out]; exact pass_val HZS.out)
                    have HQZ := hid (show Zs nq st by rw [HNQ.out, HNPE.out]; exact pass_Zs HZS.out (by rw [HL.out]; exact hst))
                    have HQB := hid (show ∀ x ∈ nq, x < 256 by
                      rw [HNQ.out, HNPE.out]
                      intro x hx
                      rcases List.mem_append.1 hx with h | h
                      · exact h256 x (List.mem_of_mem_take h)
                      · exact divq_lt _ 0 (by omega) (fun d hd => h256 d (List.mem_of_mem_drop hd)) x h)
                    clear hrw
                    go_wp2_with fail
                    refine (digitChar_any r hr _).mono ?_
                    rintro e wq ⟨rfl, rfl⟩
                    go_wp2_with (at_builtin; refine app1 rfl _ _ rfl w2.heap.size g cap ds.length (ds.map fun d => vI (alpha d)) _ rfl rfl hown2 rfl (by omega) (Nat.le_of_lt (Nat.lt_of_le_of_lt (ownsG hown2).1 (ownsG hown2).2)) ?_; intro g5 cap5 w5 hown5 hbel5 hkeep5 hat5)
                    have HQ5 := hid (show RowIs w5 w.heap.size nq from HQ.out.keep (hkeep5 w.heap.size HQ.out.lt (by have := (ownsG hown2).1; omega)))
                    have HR5 := hid (And.intro hown5 (hbl2.trans (hbel5.mono (Nat.le_of_lt hgN))))
                    clear hown5 hbel5 hkeep5 hown2 hbl2
                    go_wp2_with fail
                    go_loop [9] (fun i => ∃ st2 : Nat, st2 ≤ m ∧ i = .int .i64 st2 ∧ Zs nq st2) (fun i => m - (intOf i).toNat)
                    case atStart => exact ⟨st, hst, rfl, HQZ.out⟩
                    case round =>
                      obtain ⟨st2, hst2, rfl, hz2⟩ := hrel
                      have HZ2 := hid hz2
                      clear hz2
                      by_cases hs2 : st2 < m
                      · obtain ⟨y, hy, hym⟩ := get_lt (show st2 < nq.length by rw [HQL.out]; exact hs2)
                        have hcell := HQ5.out.cell hy
                        by_cases hy0 : y = 0
                        · subst hy0
                          have HY := hid hy
                          clear hy
                          go_wp2_with fail
                          go_round
                          case rel => exact ⟨st2 + 1, by omega, by go_num, HZ2.out.step HY.out⟩
                          case measure => simp [intOf]; omega
                        · have hyb : ((y : Int) == 0) = false := by rw [beq_eq_false_iff_ne]; omega
                          have HY := hid (show ∀ y', nq[st2]? = some y' → y' ≠ 0 from fun y' h => by rw [hy] at h; cases h; exact hy0)
                          clear hy
                          go_wp2_with fail
                          go_roundw
                          case rel => exact ⟨st2, g5, cap5, nq, ds ++ [r], rfl, by simp, by simp, hst2, HQL.out, HQB.out, HZ2.out, HY.out, HQ5.out, by simp only [List.length_append, List.length_cons, List.length_nil, List.map_append, List.map_cons, List.map_nil]; exact HR5.out.1, by rw [← HEQ.out, D_pos (by omega) HVP.out, HQV.out.1, ← HQV.out.2]; simp, HR5.out.2⟩
                          case measure => simp [intOf]; omega
                      · have HY := hid (show ∀ y', nq[st2]? = some y' → y' ≠ 0 from fun y' h => by have := (List.getElem?_eq_some_iff.1 h).1; rw [HQL.out] at this; omega)
                        go_wp2_with fail
                        go_roundw
                        case rel => exact ⟨st2, g5, cap5, nq, ds ++ [r], rfl, by simp, by simp, hst2, HQL.out, HQB.out, HZ2.out, HY.out, HQ5.out, by simp only [List.length_append, List.length_cons, List.length_nil, List.map_append, List.map_cons, List.map_nil]; exact HR5.out.1, by rw [← HEQ.out, D_pos (by omega) HVP.out, HQV.out.1, ← HQV.out.2]; simp, HR5.out.2⟩
                        case measure => simp [intOf]; omega
              · have HDD := hid (show ds = D 58 (val 256 (xs.drop z)) by have := HEQ.out; rw [HZS.out.zero (by rw [HL.out]; omega), D_zero, List.append_nil] at this; exact this)
                have HEN := hid (show encL xs = List.replicate z 49 ++ ((ds.drop 0).reverse.map alpha) by rw [encL, HZ.out, ← HDD.out]; rfl)
                clear hrow
                obtain ⟨w4, rfl⟩ : ∃ x, x = wr := ⟨wr, rfl⟩
                go_wp2_with (at_make; refine make_own rfl _ _ 22 rfl 5 _ 1 1 Try.underlying22 info5 _ _ _ (z + ds.length) rfl rfl ?d0P ?d1P ?d2P ?_)
                case d0P => omega
                case d1P => omega
                case d2P => unfold maxLen; omega
                intro w6 hown6 hb6
                go_wp2_with fail
                go_loopw [15, 14] (fun s15 v wr => ∃ (k g2 cap2 : Nat), k ≤ z ∧ s15 = .int .i64 k ∧ v = .slice (some ⟨g2, 0, none⟩) k cap2 ∧ wr.ownsRow w4.heap.size 5 1 (.slice (some ⟨g2, 0, none⟩) k cap2) k ((List.replicate k 49).map vI) ∧ Below w4.heap.size w4 wr) (fun s15 _ _ => z - (intOf s15).toNat)
                case atStart => exact ⟨0, w4.heap.size, _, Nat.zero_le _, rfl, rfl, hown6, hb6⟩
                case round =>
                  obtain ⟨k, g2, cap2, hkz, rfl, rfl, hown7, hb7⟩ := hrel
                  by_cases hk : k < z
                  · go_wp2_with (at_builtin; refine app1 rfl _ _ rfl w4.heap.size g2 cap2 k ((List.replicate k 49).map vI) _ rfl rfl hown7 rfl (by omega) hb7.size ?_; intro g5 cap5 w5 hown5 hbel5 hkeep5 hat5)
                    have HR5 := hid (And.intro hown5 hbel5)
                    clear hown5 hbel5 hkeep5
                    go_wp2_with fail
                    go_roundw
                    case rel => exact ⟨k + 1, g5, cap5, by omega, by go_num, rfl, by rw [List.replicate_succ', List.map_append]; exact HR5.out.1, hb7.trans HR5.out.2⟩
                    case measure => simp [intOf]; omega
                  · have hkz2 : k = z := by omega
                    subst hkz2
                    go_wp2_with fail
                    go_loopw [16, 14] (fun s16 v wr => ∃ (t g3 cap3 : Nat) (ol : List Nat), t ≤ ds.length ∧ s16 = .int .i64 ((t : Int) - 1) ∧ v = .slice (some ⟨g3, 0, none⟩) ol.length cap3 ∧ ol = List.replicate k 49 ++ ((ds.drop t).reverse.map alpha) ∧ wr.ownsRow w4.heap.size 5 1 (.slice (some ⟨g3, 0, none⟩) ol.length cap3) ol.length (ol.map vI) ∧ Below w4.heap.size w4 wr) (fun s16 _ _ => (intOf s16 + 1).toNat)
                    case atStart => exact ⟨ds.length, g2, cap2, List.replicate k 49, Nat.le_refl _, rfl, by simp, by simp, by simpa using hown7, hb7⟩
                    case round =>
                      obtain ⟨t, g3, cap3, ol, ht, rfl, rfl, hol, hown8, hb8⟩ := hrel
                      have hll : ol.length ≤ 20000 := by rw [hol]; simp; omega
                      have HOL := hid hol
                      clear hol
                      cases t with
                      | succ t =>
                        obtain ⟨d, hd, -⟩ := get_lt (show t < ds.length by omega)
                        have hcell : wr.cell? ⟨g, t, none⟩ = some (.int .u8 (alpha d : Int)) := by
                          rw [hb8.cell (p := ⟨g, t, none⟩) (ownsG hown).2, hown.cellAt t (by omega), List.getElem?_map, hd]
                          rfl
                        have HDR := hid (show ds.drop t = d :: ds.drop (t + 1) by
                          have he := (List.getElem?_eq_some_iff.1 hd).2
                          rw [← he, List.getElem_cons_drop])
                        clear hd
                        go_wp2_with (at_builtin; refine app1 rfl _ _ rfl w4.heap.size g3 cap3 ol.length (ol.map vI) _ rfl rfl hown8 rfl (by omega) hb8.size ?_; intro g5 cap5 w5 hown5 hbel5 hkeep5 hat5)
                        have HR5 := hid (And.intro hown5 hbel5)
                        clear hown5 hbel5 hkeep5
                        go_wp2_with fail
                        go_roundw
                        case rel => exact ⟨t, g5, cap5, ol ++ [alpha d], by omega, by go_num, by simp, by rw [HDR.out, HOL.out]; simp, by simp only [List.length_append, List.length_cons, List.length_nil, List.map_append, List.map_cons, List.map_nil]; exact HR5.out.1, hb8.trans HR5.out.2⟩
                        case measure => simp [intOf]
                      | zero =>
                        have hcv := owns_conv hown8
                        rw [show strOfNums (ol.map fun (n : Nat) => (n : Int)) = encS xs by rw [encS, HEN.out, HOL.out]] at hcv
                        go_wp2_with fail
                        go_ret
                        exact ⟨rfl, bt hbl hb8⟩
      · go_wp2_with (at_make; refine make_row rfl _ _ 22 rfl 5 _ 1 1 Try.underlying22 info5 _ _ _ _ m rfl rfl ?b0N ?b1N ?b2N ?b3N ?_)
        case b0N => omega
        case b1N => omega
        case b2N => omega
        case b3N => unfold maxLen; omega
        intro w1 cur1 hcur1 hcs1 hb1
        obtain ⟨tg, HTG⟩ : ∃ f : Nat → Nat, Hid (f = fun j => (xs.drop z).getD j 0) := ⟨_, rfl⟩
        have HO1 : Hid (OutAt w w1 m tg (fun j => j < 0)) := ⟨⟨cur1, hcur1, by omega, fun j _ h => absurd h (Nat.not_lt_zero _)⟩, hb1⟩
        clear hcur1 hcs1 hb1
        go_wp2_with fail
        go_loopw [7] (fun i wr => ∃ k : Nat, k ≤ m ∧ i = .int .i64 k ∧ OutAt w wr m tg (fun j => j < k)) (fun i _ => m - (intOf i).toNat)
        case atStart => exact ⟨0, Nat.zero_le _, rfl, HO1.out⟩
        case round =>
          obtain ⟨k, hk, rfl, ho⟩ := hrel
          have HO := hid ho
          have hfr := ho.frozen
          by_cases hkm : k < m
          · exact absurd hkm (by have := HM.out; omega)
          · have HR0 : Hid (RowIs wr w.heap.size (xs.drop z)) := by
              obtain ⟨⟨cur, a1, a2, a3⟩, a4⟩ := HO.out
              refine ⟨cur, a1, by rw [HYL.out]; exact a2, fun j x hx => ?_⟩
              have hj : j < m := by have := (List.getElem?_eq_some_iff.1 hx).1; rw [HYL.out] at this; exact this
              have h1 := a3 j hj (by omega)
              rw [HTG.out] at h1
              simpa [List.getD_eq_getElem?_getD, hx] using h1
            have hBw := HO.out.2
            clear ho hfr
            obtain ⟨w2, rfl⟩ : ∃ x, x = wr := ⟨wr, rfl⟩
            go_wp2_with (at_make; refine make_own rfl _ _ 22 rfl 5 _ 1 1 Try.underlying22 info5 _ _ _ (2 * m + 1) rfl rfl ?c0N ?c1N ?c2N ?_)
            case c0N => omega
            case c1N => omega
            case c2N => unfold maxLen; omega
            intro w3 hown3 hb3
            have hgN : w.heap.size < w2.heap.size := HR0.out.lt
            have HST : Hid (RowIs w3 w.heap.size (xs.drop z) ∧ Below w.heap.size w w3) := ⟨HR0.out.keep (hb3.block _ hgN), bt hBw hb3⟩
            go_wp2_with fail
            go_loopw [9, 10, 8] (fun s9 s10 v wr => ∃ (st g cap : Nat) (nl ds : List Nat), s9 = .int .i64 st ∧ s10 = .int .i64 ds.length ∧ v = .slice (some ⟨g, 0, none⟩) ds.length cap ∧ st ≤ m ∧ nl.length = m ∧ (∀ x ∈ nl, x < 256) ∧ Zs nl st ∧ (∀ y, nl[st]? = some y → y ≠ 0) ∧ RowIs wr w.heap.size nl ∧ wr.ownsRow w2.heap.size 5 1 (.slice (some ⟨g, 0, none⟩) ds.length cap) ds.length (ds.map fun d => vI (alpha d)) ∧ ds ++ D 58 (val 256 nl) = D 58 (val 256 (xs.drop z)) ∧ Below w.heap.size w wr)
              (fun _ s10 _ _ => (2 * m + 1) - (intOf s10).toNat)
            case atStart => exact ⟨0, w2.heap.size, _, xs.drop z, [], rfl, rfl, rfl, Nat.zero_le _, HYL.out, fun x hx => hlt x (List.mem_of_mem_drop hx), fun i hi => absurd hi (Nat.not_lt_zero _), HNO.out, HST.out.1, hown3, by simp, HST.out.2⟩
            case round =>
              obtain ⟨st, g, cap, nl, ds, rfl, rfl, rfl, hst, hnl, h256, hzs, hnz, hrow, hown, heq, hbl⟩ := hrel
              have HL := hid hnl
              have HEQ := hid heq
              have HZS := hid hzs
              have HNZ := hid hnz
              clear hnl heq hzs hnz
              have HV0 := hid (show (D 58 (val 256 (xs.drop z))).length ≤ 2 * m by
                have h1 : val 256 (xs.drop z) < 256 ^ (xs.drop z).length := val_lt (by omega) _ fun d hd => hlt d (List.mem_of_mem_drop hd)
                have h2 := D_length h1
                rw [HYL.out] at h2
                exact h2)
              have hps : ds.length ≤ 2 * m := by have h1 := congrArg List.length HEQ.out; rw [List.length_append] at h1; have := HV0.out; omega
              have hdl : ds.length ≤ 8194 := by omega
              by_cases hsm : st < m
              · exact absurd hsm (by have := HM.out; omega)
              · have HDD := hid (show ds = D 58 (val 256 (xs.drop z)) by have := HEQ.out; rw [HZS.out.zero (by rw [HL.out]; omega), D_zero, List.append_nil] at this; exact this)
                have HEN := hid (show encL xs = List.replicate z 49 ++ ((ds.drop 0).reverse.map alpha) by rw [encL, HZ.out, ← HDD.out]; rfl)
                clear hrow
                obtain ⟨w4, rfl⟩ : ∃ x, x = wr := ⟨wr, rfl⟩
                go_wp2_with (at_make; refine make_own rfl _ _ 22 rfl 5 _ 1 1 Try.underlying22 info5 _ _ _ (z + ds.length) rfl rfl ?d0N ?d1N ?d2N ?_)
                case d0N => omega
                case d1N => omega
                case d2N => unfold maxLen; omega
                intro w6 hown6 hb6
                go_wp2_with fail
                go_loopw [15, 14] (fun s15 v wr => ∃ (k g2 cap2 : Nat), k ≤ z ∧ s15 = .int .i64 k ∧ v = .slice (some ⟨g2, 0, none⟩) k cap2 ∧ wr.ownsRow w4.heap.size 5 1 (.slice (some ⟨g2, 0, none⟩) k cap2) k ((List.replicate k 49).map vI) ∧ Below w4.heap.size w4 wr) (fun s15 _ _ => z - (intOf s15).toNat)
                case atStart => exact ⟨0, w4.heap.size, _, Nat.zero_le _, rfl, rfl, hown6, hb6⟩
                case round =>
                  obtain ⟨k, g2, cap2, hkz, rfl, rfl, hown7, hb7⟩ := hrel
                  by_cases hk : k < z
                  · go_wp2_with (at_builtin; refine app1 rfl _ _ rfl w4.heap.size g2 cap2 k ((List.replicate k 49).map vI) _ rfl rfl hown7 rfl (by omega) hb7.size ?_; intro g5 cap5 w5 hown5 hbel5 hkeep5 hat5)
                    have HR5 := hid (And.intro hown5 hbel5)
                    clear hown5 hbel5 hkeep5
                    go_wp2_with fail
                    go_roundw
                    case rel => exact ⟨k + 1, g5, cap5, by omega, by go_num, rfl, by rw [List.replicate_succ', List.map_append]; exact HR5.out.1, hb7.trans HR5.out.2⟩
                    case measure => simp [intOf]; omega
                  · have hkz2 : k = z := by omega
                    subst hkz2
                    go_wp2_with fail
                    go_loopw [16, 14] (fun s16 v wr => ∃ (t g3 cap3 : Nat) (ol : List Nat), t ≤ ds.length ∧ s16 = .int .i64 ((t : Int) - 1) ∧ v = .slice (some ⟨g3, 0, none⟩) ol.length cap3 ∧ ol = List.replicate k 49 ++ ((ds.drop t).reverse.map alpha) ∧ wr.ownsRow w4.heap.size 5 1 (.slice (some ⟨g3, 0, none⟩) ol.length cap3) ol.length (ol.map vI) ∧ Below w4.heap.size w4 wr) (fun s16 _ _ => (intOf s16 + 1).toNat)
                    case atStart => exact ⟨ds.length, g2, cap2, List.replicate k 49, Nat.le_refl _, rfl, by simp, by simp, by simpa using hown7, hb7⟩
                    case round =>
                      obtain ⟨t, g3, cap3, ol, ht, rfl, rfl, hol, hown8, hb8⟩ := hrel
                      have hll : ol.length ≤ 20000 := by rw [hol]; simp; omega
                      have HOL := hid hol
                      clear hol
                      cases t with
                      | succ t =>
                        exact absurd ht (by have := HM.out; omega)
                      | zero =>
                        have hcv := owns_conv hown8
                        rw [show strOfNums (ol.map fun (n : Nat) => (n : Int)) = encS xs by rw [encS, HEN.out, HOL.out]] at hcv
                        go_wp2_with fail
                        go_ret
                        exact ⟨rfl, bt hbl hb8⟩
end Go.Proofs.Qxb6629335a
