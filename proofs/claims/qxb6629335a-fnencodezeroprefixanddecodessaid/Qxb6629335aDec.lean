import Derived.Test.Qxb6629335aLaw3
namespace Go.Proofs.Qxb6629335a
open Go.RowKit
set_option linter.unusedVariables false
set_option linter.unusedSimpArgs false

theorem ret_i64 {a b : Int} (h : a = b) : Ending.returned (.int .i64 a) = .returned (.int .i64 b) := by rw [h]
set_option maxRecDepth 4000 in
set_option maxHeartbeats 1000000 in
theorem value_any (c d : Nat) (hc : c = alpha d) (h : d < 58) (w : World) : Calls Try.prog 11 #[.int .u8 (c : Int)] w fun e w' => e = .returned (.int .i64 (d : Int)) ∧ w' = w := by
  have HA := alpha_runs d h
  rw [← hc] at HA
  clear hc
  by_cases h1 : d < 9
  · rw [if_pos h1] at HA
    have e1 : c = d + 49 := by omega
    clear HA
    subst e1
    go_enter Try.func11, Try.ntmps11
    go_wp2_with fail
    go_ret
    exact ⟨ret_i64 (by omega), rfl⟩
  · rw [if_neg h1] at HA
    by_cases h2 : d < 17
    · rw [if_pos h2] at HA
      have e1 : c = d + 56 := by omega
      clear HA
      subst e1
      go_enter Try.func11, Try.ntmps11
      go_wp2_with fail
      go_ret
      exact ⟨ret_i64 (by omega), rfl⟩
    · rw [if_neg h2] at HA
      by_cases h3 : d < 22
      · rw [if_pos h3] at HA
        have e1 : c = d + 57 := by omega
        clear HA
        subst e1
        go_enter Try.func11, Try.ntmps11
        go_wp2_with fail
        go_ret
        exact ⟨ret_i64 (by omega), rfl⟩
      · rw [if_neg h3] at HA
        by_cases h4 : d < 33
        · rw [if_pos h4] at HA
          have e1 : c = d + 58 := by omega
          clear HA
          subst e1
          go_enter Try.func11, Try.ntmps11
          go_wp2_with fail
          go_ret
          exact ⟨ret_i64 (by omega), rfl⟩
        · rw [if_neg h4] at HA
          by_cases h5 : d < 44
          · rw [if_pos h5] at HA
            have e1 : c = d + 64 := by omega
            clear HA
            subst e1
            go_enter Try.func11, Try.ntmps11
            go_wp2_with fail
            go_ret
            exact ⟨ret_i64 (by omega), rfl⟩
          · rw [if_neg h5] at HA
            have e1 : c = d + 65 := by omega
            clear HA
            subst e1
            go_enter Try.func11, Try.ntmps11
            go_wp2_with fail
            go_ret
            exact ⟨ret_i64 (by omega), rfl⟩

theorem _root_.Go.World.ownsRow.bsAt {w : World} {base g cap : Nat} {ol : List Nat} (h : w.ownsRow base 5 1 (.slice (some ⟨g, 0, none⟩) ol.length cap) ol.length (ol.map vI)) : BsAt w (some ⟨g, 0, none⟩) ol := fun k x hx => ⟨g, 0, rfl, by
  rw [Nat.zero_add, h.cellAt k (by have := (List.getElem?_eq_some_iff.1 hx).1; omega), List.getElem?_map, hx]
  rfl⟩
theorem _root_.Go.World.ownsRow.slOk {w : World} {base g n cap : Nat} {ol : List Value} (h : w.ownsRow base 5 1 (.slice (some ⟨g, 0, none⟩) n cap) n ol) : SlOk (some ⟨g, 0, none⟩) n cap := by
  rcases h.2 with ⟨h1, _⟩ | ⟨g', cap', cur, hv, _, hg, hn, hm, hs, _⟩
  · cases h1
  · injection hv with h1 h2 h3
    subst h3
    exact ⟨hn, hm, fun h => by cases h⟩
theorem alpha_49 {d : Nat} (h : d < 58) (h0 : d ≠ 0) : alpha d ≠ 49 := by
  have HA := alpha_runs d h
  intro e
  rw [e] at HA
  split at HA
  · omega
  · split at HA
    · omega
    · split at HA
      · omega
      · split at HA
        · omega
        · split at HA <;> omega

theorem D_length256 : ∀ (k n : Nat), n < 256 ^ k → (D 256 n).length ≤ k := by
  intro k
  induction k with
  | zero => intro n h; obtain rfl : n = 0 := by simpa using h
            simp [D_zero]
  | succ k ih =>
    intro n h
    by_cases h0 : n = 0
    · subst h0; simp [D_zero]
    · rw [D_pos (by omega) (by omega), List.length_cons]
      have := ih (n / 256) (by rw [Nat.pow_succ] at h; omega)
      omega
theorem dec_length (l : List Nat) (h : ∀ d ∈ l, d < 58) : (D 256 (val 58 l)).length ≤ l.length :=
  D_length256 _ _ (Nat.lt_of_lt_of_le (val_lt (by omega) l h) (Nat.pow_le_pow_left (by decide) _))

set_option maxHeartbeats 4000000 in
theorem decode_any (s : ByteArray) (z : Nat) (ds : List Nat) (hsz : s.size = z + ds.length) (hl : s.size ≤ 8400) (h1 : ∀ k (h : k < s.size), k < z → s[k].toNat = 49)
    (h2 : ∀ k d (h : k < s.size), z ≤ k → ds[k - z]? = some d → s[k].toNat = alpha d) (h58 : ∀ d ∈ ds, d < 58) (h0 : ∀ d, ds[0]? = some d → d ≠ 0) (w : World) :
    Calls Try.prog 9 #[.string s] w fun e w' => ∃ (g cap : Nat) (ol : List Nat), e = .returned (.tuple #[.slice (some ⟨g, 0, none⟩) ol.length cap, .bool true]) ∧ ol = List.replicate z 0 ++ (D 256 (val 58 ds)).reverse ∧ BsAt w' (some ⟨g, 0, none⟩) ol ∧ SlOk (some ⟨g, 0, none⟩) ol.length cap ∧ g < w'.heap.size ∧ Below w.heap.size w w' := by
  have HSZ := hid hsz
  have H1 := hid h1
  have H2 := hid h2
  have H0 := hid h0
  have H58 := hid h58
  clear hsz h1 h2 h0 h58
  go_enter Try.func9, Try.ntmps9
  go_wp2_with fail
  go_loop [4] (fun i => ∃ k : Nat, k ≤ z ∧ i = .int .i64 k) (fun i => z - (intOf i).toNat)
  case atStart => exact ⟨0, Nat.zero_le _, rfl⟩
  case round =>
    obtain ⟨k, hk, rfl⟩ := hrel
    by_cases hkz : k < z
    · have hks : k < s.size := by have := HSZ.out; omega
      have hch : ((s[k].toNat : Int) == 49) = true := by rw [H1.out k hks hkz]; rfl
      go_wp2_with fail
      go_round
      case rel => exact ⟨k + 1, by omega, by go_num⟩
      case measure => simp [intOf]; omega
    · obtain rfl : k = z := by omega
      have hcase : (∃ hks : k < s.size, ((s[k].toNat : Int) == 49) = false) ∨ ¬ k < s.size := by
        by_cases hks : k < s.size
        · obtain ⟨d, hd, hm⟩ := get_lt (show 0 < ds.length by have := HSZ.out; omega)
          refine Or.inl ⟨hks, ?_⟩
          rw [H2.out k d hks (Nat.le_refl _) (by rw [Nat.sub_self]; exact hd), beq_eq_false_iff_ne]
          have := alpha_49 (H58.out d hm) (H0.out d hd)
          omega
        · exact Or.inr hks
      clear hkz hk
      rcases hcase with ⟨hks, hch⟩ | hks
      · go_wp2_with (at_make; refine make_own rfl _ _ 22 rfl 5 _ 1 1 Try.underlying22 info5 _ _ _ s.size rfl rfl ?b0P ?b1P ?b2P ?_)
        case b0P => omega
        case b1P => omega
        case b2P => unfold maxLen; omega
        intro w1 hown hbel
        have hkle : k ≤ s.size := by have := HSZ.out; omega
        go_wp2_with fail
        go_loopw [6, 5] (fun i v wr => ∃ (p g cap : Nat) (ns : List Nat), k ≤ p ∧ p ≤ s.size ∧ i = .int .i64 p ∧ v = .slice (some ⟨g, 0, none⟩) ns.length cap ∧ wr.ownsRow w.heap.size 5 1 (.slice (some ⟨g, 0, none⟩) ns.length cap) ns.length (ns.map vI) ∧ ns = D 256 (val 58 (ds.take (p - k))) ∧ Below w.heap.size w wr)
          (fun i _ _ => s.size - (intOf i).toNat)
        case atStart => exact ⟨k, w.heap.size, _, [], Nat.le_refl _, hkle, rfl, rfl, hown, by simp [val, D_zero], hbel⟩
        case round =>
          obtain ⟨p, g, cap, ns, hkp, hps, rfl, rfl, hown, hns, hbl⟩ := hrel
          have HNS := hid hns
          have HNL := hid (show ∀ d ∈ ns, d < 256 by rw [hns]; exact D_lt (by omega) _)
          have hnl : ns.length ≤ 8400 := by
            have := dec_length (ds.take (p - k)) fun d hd => H58.out d (List.mem_of_mem_take hd)
            rw [← hns, List.length_take] at this
            omega
          clear hns
          by_cases hpl : p < s.size
          · obtain ⟨d, hd, hm⟩ := get_lt (show p - k < ds.length by have := HSZ.out; omega)
            have hd58 : d < 58 := H58.out d hm
            have HCH := hid (H2.out p d hpl hkp hd)
            have HT := hid (show mul 256 58 ns d = D 256 (val 58 (ds.take (p + 1 - k))) by
              rw [HNS.out, mul_D (by omega) (by omega), show p + 1 - k = (p - k) + 1 by omega, List.take_add_one, hd, Option.toList_some, val_snoc])
            have HTL := hid (show (mul 256 58 ns d).length ≤ 8400 by
              rw [HT.out]
              have := dec_length (ds.take (p + 1 - k)) fun d hd => H58.out d (List.mem_of_mem_take hd)
              rw [List.length_take] at this
              have := HSZ.out
              omega)
            clear hd
            go_wp2_with fail
            refine (value_any _ d HCH.out hd58 _).mono ?_
            rintro e wq ⟨rfl, rfl⟩
            go_wp2_with fail
            go_loopw [9, 8] (fun i t wr => ∃ (j c : Nat) (new : List Nat), j ≤ ns.length ∧ new.length = j ∧ i = .int .i64 j ∧ t = .int .i64 c ∧ c < 58 ∧ wr.ownsRow w.heap.size 5 1 (.slice (some ⟨g, 0, none⟩) ns.length cap) ns.length ((new ++ ns.drop j).map vI) ∧ new ++ mul 256 58 (ns.drop j) c = mul 256 58 ns d ∧ Below w.heap.size w wr)
              (fun i _ _ => ns.length - (intOf i).toNat)
            case atStart => exact ⟨0, d, [], Nat.zero_le _, rfl, rfl, rfl, hd58, by simpa using hown, by simp, hbl⟩
            case round =>
              obtain ⟨j, c', new, hj, hnl2, rfl, rfl, hc58, hown2, heq, hbl2⟩ := hrel
              have HEQ := hid heq
              have HNW := hid hnl2
              clear heq hnl2
              by_cases hjl : j < ns.length
              · obtain ⟨dd, hdd, hdm⟩ := get_lt hjl
                have hd256 : dd < 256 := HNL.out dd hdm
                have hdrop : ns.drop j = dd :: ns.drop (j + 1) := by
                  have he := (List.getElem?_eq_some_iff.1 hdd).2
                  rw [← he, List.getElem_cons_drop]
                have hcell : wr.cell? ⟨g, j, none⟩ = some (.int .u8 (dd : Int)) := by
                  rw [hown2.cellAt j (by omega), hdrop]
                  rw [List.getElem?_map, List.getElem?_append_right (by have := HNW.out; omega), show j - new.length = 0 by have := HNW.out; omega]
                  rfl
                have hfr := fun o => hown2.frozenAt o
                have HST := hid (hown2.stored j (vI ((c' + dd * 58) % 256)))
                have HDR := hid hdrop
                clear hdrop hdd
                go_wp2_with fail
                go_wp2_with fail
                go_roundw
                case rel =>
                  refine ⟨j + 1, (c' + dd * 58) / 256, new ++ [(c' + dd * 58) % 256], by omega, by simp [HNW.out], by go_num, by go_num, by omega, ?_, ?_, hbl2.setCell (p := ⟨g, j, none⟩) (ownsG hown2).1 _⟩
                  · have h1 := HST.out.1
                    have e1 : ((new ++ ns.drop j).map vI).set j (vI ((c' + dd * 58) % 256)) = ((new ++ [(c' + dd * 58) % 256]) ++ ns.drop (j + 1)).map vI := by
                      rw [HDR.out, ← HNW.out, List.map_append, List.map_append, List.map_append, List.set_append_right _ _ (by simp)]
                      simp
                    rw [e1] at h1
                    have e2 : (Value.int .u8 (((c' : Int) + (dd : Int) * 58) % 256)) = vI ((c' + dd * 58) % 256) := by simp [vI]
                    rw [e2]
                    exact h1
                  · rw [← HEQ.out, HDR.out, mul]
                    simp
                case measure => simp [intOf]; omega
              · have HJ := hid (show ns.drop j = [] from List.drop_eq_nil_of_le (by omega))
                have HE0 := hid (show new ++ D 256 c' = mul 256 58 ns d by have := HEQ.out; rw [HJ.out, mul] at this; exact this)
                have hown3 := hown2
                rw [HJ.out, List.append_nil] at hown3
                have hnl3 : ns.length = new.length := by have := HNW.out; omega
                have HN2 := hid hnl3
                clear hown2 hnl3
                go_wp2_with fail
                go_loopw [8, 5] (fun t v wr => ∃ (c g cap : Nat) (ns' : List Nat), t = .int .i64 c ∧ v = .slice (some ⟨g, 0, none⟩) ns'.length cap ∧ c < 58 ∧ wr.ownsRow w.heap.size 5 1 (.slice (some ⟨g, 0, none⟩) ns'.length cap) ns'.length (ns'.map vI) ∧ ns' ++ D 256 c = mul 256 58 ns d ∧ Below w.heap.size w wr)
                  (fun t _ _ => (intOf t).toNat)
                case atStart => exact ⟨c', g, cap, new, rfl, by rw [HN2.out], hc58, by rw [← HN2.out]; exact hown3, HE0.out, hbl2⟩
                case round =>
                  obtain ⟨c3, g3, cap3, ns3, rfl, rfl, hc3, hown4, heq3, hbl3⟩ := hrel
                  have hl3 : ns3.length ≤ 8400 := by have := congrArg List.length heq3; rw [List.length_append] at this; have := HTL.out; omega
                  have HE3 := hid heq3
                  clear heq3
                  by_cases hpos : 0 < c3
                  · go_wp2_with (at_builtin; refine app1 rfl _ _ rfl w.heap.size g3 cap3 ns3.length (ns3.map vI) _ rfl rfl hown4 rfl (by omega) hbl3.size ?_; intro g5 cap5 w5 hown5 hbel5 hkeep5 hat5)
                    have HR5 := hid (And.intro hown5 hbel5)
                    clear hown5 hbel5 hkeep5
                    go_wp2_with fail
                    go_roundw
                    case rel =>
                      refine ⟨c3 / 256, g5, cap5, ns3 ++ [c3 % 256], by go_num, by simp, by omega, ?_, ?_, hbl3.trans HR5.out.2⟩
                      · have h1 := HR5.out.1
                        simp only [List.length_append, List.length_cons, List.length_nil, List.map_append, List.map_cons, List.map_nil]
                        have e2 : (Value.int .u8 ((c3 : Int) % 256)) = vI (c3 % 256) := by simp [vI]
                        rw [← e2]
                        exact h1
                      · rw [← HE3.out, D_pos (by omega) hpos]
                        simp
                    case measure => simp [intOf]; omega
                  · have h0 : c3 = 0 := by omega
                    have HF := hid (show ns3 = D 256 (val 58 (ds.take (p + 1 - k))) by have := HE3.out; rw [h0, D_zero, List.append_nil] at this; rw [this, HT.out])
                    clear h0
                    go_wp2_with fail
                    go_roundw
                    case rel => exact ⟨p + 1, g3, cap3, ns3, by omega, by omega, by go_num, rfl, hown4, HF.out, hbl3⟩
                    case measure => simp [intOf]; omega
          · have HD2 := hid (show ns = D 256 (val 58 ds) by rw [HNS.out, List.take_of_length_le (by have := HSZ.out; omega)])
            obtain ⟨w4, rfl⟩ : ∃ x, x = wr := ⟨wr, rfl⟩
            go_wp2_with (at_make; refine make_own rfl _ _ 22 rfl 5 _ 1 1 Try.underlying22 info5 _ _ _ (k + ns.length) rfl rfl ?d0P ?d1P ?d2P ?_)
            case d0P => omega
            case d1P => omega
            case d2P => unfold maxLen; omega
            intro w6 hown6 hb6
            go_wp2_with fail
            go_loopw [11, 10] (fun s15 v wr => ∃ (j g2 cap2 : Nat), j ≤ k ∧ s15 = .int .i64 j ∧ v = .slice (some ⟨g2, 0, none⟩) j cap2 ∧ wr.ownsRow w4.heap.size 5 1 (.slice (some ⟨g2, 0, none⟩) j cap2) j ((List.replicate j 0).map vI) ∧ Below w4.heap.size w4 wr) (fun s15 _ _ => k - (intOf s15).toNat)
            case atStart => exact ⟨0, w4.heap.size, _, Nat.zero_le _, rfl, rfl, hown6, hb6⟩
            case round =>
              obtain ⟨j, g2, cap2, hjz, rfl, rfl, hown7, hb7⟩ := hrel
              by_cases hj : j < k
              · go_wp2_with (at_builtin; refine app1 rfl _ _ rfl w4.heap.size g2 cap2 j ((List.replicate j 0).map vI) _ rfl rfl hown7 rfl (by omega) hb7.size ?_; intro g5 cap5 w5 hown5 hbel5 hkeep5 hat5)
                have HR5 := hid (And.intro hown5 hbel5)
                clear hown5 hbel5 hkeep5
                go_wp2_with fail
                go_roundw
                case rel => exact ⟨j + 1, g5, cap5, by omega, by go_num, rfl, by rw [List.replicate_succ', List.map_append]; exact HR5.out.1, hb7.trans HR5.out.2⟩
                case measure => simp [intOf]; omega
              · have hjz2 : j = k := by omega
                subst hjz2
                go_wp2_with fail
                go_loopw [12, 10] (fun s16 v wr => ∃ (t g3 cap3 : Nat) (ol : List Nat), t ≤ ns.length ∧ s16 = .int .i64 ((t : Int) - 1) ∧ v = .slice (some ⟨g3, 0, none⟩) ol.length cap3 ∧ ol = List.replicate j 0 ++ (ns.drop t).reverse ∧ wr.ownsRow w4.heap.size 5 1 (.slice (some ⟨g3, 0, none⟩) ol.length cap3) ol.length (ol.map vI) ∧ Below w4.heap.size w4 wr) (fun s16 _ _ => (intOf s16 + 1).toNat)
                case atStart => exact ⟨ns.length, g2, cap2, List.replicate j 0, Nat.le_refl _, rfl, by simp, by simp, by simpa using hown7, hb7⟩
                case round =>
                  obtain ⟨t, g3, cap3, ol, ht, rfl, rfl, hol, hown8, hb8⟩ := hrel
                  have hll : ol.length ≤ 20000 := by rw [hol]; simp; omega
                  have HOL := hid hol
                  clear hol
                  cases t with
                  | succ t =>
                    obtain ⟨d, hd, -⟩ := get_lt (show t < ns.length by omega)
                    have hcell : wr.cell? ⟨g, t, none⟩ = some (.int .u8 (d : Int)) := by
                      rw [hb8.cell (p := ⟨g, t, none⟩) (ownsG hown).2, hown.cellAt t (by omega), List.getElem?_map, hd]
                      rfl
                    have HDR := hid (show ns.drop t = d :: ns.drop (t + 1) by
                      have he := (List.getElem?_eq_some_iff.1 hd).2
                      rw [← he, List.getElem_cons_drop])
                    clear hd
                    go_wp2_with (at_builtin; refine app1 rfl _ _ rfl w4.heap.size g3 cap3 ol.length (ol.map vI) _ rfl rfl hown8 rfl (by omega) hb8.size ?_; intro g5 cap5 w5 hown5 hbel5 hkeep5 hat5)
                    have HR5 := hid (And.intro hown5 hbel5)
                    clear hown5 hbel5 hkeep5
                    go_wp2_with fail
                    go_roundw
                    case rel => exact ⟨t, g5, cap5, ol ++ [d], by omega, by go_num, by simp, by rw [HDR.out, HOL.out]; simp, by simp only [List.length_append, List.length_cons, List.length_nil, List.map_append, List.map_cons, List.map_nil]; exact HR5.out.1, hb8.trans HR5.out.2⟩
                    case measure => simp [intOf]
                  | zero =>
                    go_wp2_with fail
                    go_ret2
                    exact ⟨g3, cap3, ol, rfl, by rw [HOL.out, HD2.out]; rfl, hown8.bsAt, hown8.slOk, (ownsG hown8).2, bt hbl hb8⟩
      · go_wp2_with (at_make; refine make_own rfl _ _ 22 rfl 5 _ 1 1 Try.underlying22 info5 _ _ _ s.size rfl rfl ?b0N ?b1N ?b2N ?_)
        case b0N => omega
        case b1N => omega
        case b2N => unfold maxLen; omega
        intro w1 hown hbel
        have hkle : k ≤ s.size := by have := HSZ.out; omega
        go_wp2_with fail
        go_loopw [6, 5] (fun i v wr => ∃ (p g cap : Nat) (ns : List Nat), k ≤ p ∧ p ≤ s.size ∧ i = .int .i64 p ∧ v = .slice (some ⟨g, 0, none⟩) ns.length cap ∧ wr.ownsRow w.heap.size 5 1 (.slice (some ⟨g, 0, none⟩) ns.length cap) ns.length (ns.map vI) ∧ ns = D 256 (val 58 (ds.take (p - k))) ∧ Below w.heap.size w wr)
          (fun i _ _ => s.size - (intOf i).toNat)
        case atStart => exact ⟨k, w.heap.size, _, [], Nat.le_refl _, hkle, rfl, rfl, hown, by simp [val, D_zero], hbel⟩
        case round =>
          obtain ⟨p, g, cap, ns, hkp, hps, rfl, rfl, hown, hns, hbl⟩ := hrel
          have HNS := hid hns
          have HNL := hid (show ∀ d ∈ ns, d < 256 by rw [hns]; exact D_lt (by omega) _)
          have hnl : ns.length ≤ 8400 := by
            have := dec_length (ds.take (p - k)) fun d hd => H58.out d (List.mem_of_mem_take hd)
            rw [← hns, List.length_take] at this
            omega
          clear hns
          by_cases hpl : p < s.size
          · exact absurd hpl (by omega)
          · have HD2 := hid (show ns = D 256 (val 58 ds) by rw [HNS.out, List.take_of_length_le (by have := HSZ.out; omega)])
            obtain ⟨w4, rfl⟩ : ∃ x, x = wr := ⟨wr, rfl⟩
            go_wp2_with (at_make; refine make_own rfl _ _ 22 rfl 5 _ 1 1 Try.underlying22 info5 _ _ _ (k + ns.length) rfl rfl ?d0N ?d1N ?d2N ?_)
            case d0N => omega
            case d1N => omega
            case d2N => unfold maxLen; omega
            intro w6 hown6 hb6
            go_wp2_with fail
            go_loopw [11, 10] (fun s15 v wr => ∃ (j g2 cap2 : Nat), j ≤ k ∧ s15 = .int .i64 j ∧ v = .slice (some ⟨g2, 0, none⟩) j cap2 ∧ wr.ownsRow w4.heap.size 5 1 (.slice (some ⟨g2, 0, none⟩) j cap2) j ((List.replicate j 0).map vI) ∧ Below w4.heap.size w4 wr) (fun s15 _ _ => k - (intOf s15).toNat)
            case atStart => exact ⟨0, w4.heap.size, _, Nat.zero_le _, rfl, rfl, hown6, hb6⟩
            case round =>
              obtain ⟨j, g2, cap2, hjz, rfl, rfl, hown7, hb7⟩ := hrel
              by_cases hj : j < k
              · go_wp2_with (at_builtin; refine app1 rfl _ _ rfl w4.heap.size g2 cap2 j ((List.replicate j 0).map vI) _ rfl rfl hown7 rfl (by omega) hb7.size ?_; intro g5 cap5 w5 hown5 hbel5 hkeep5 hat5)
                have HR5 := hid (And.intro hown5 hbel5)
                clear hown5 hbel5 hkeep5
                go_wp2_with fail
                go_roundw
                case rel => exact ⟨j + 1, g5, cap5, by omega, by go_num, rfl, by rw [List.replicate_succ', List.map_append]; exact HR5.out.1, hb7.trans HR5.out.2⟩
                case measure => simp [intOf]; omega
              · have hjz2 : j = k := by omega
                subst hjz2
                go_wp2_with fail
                go_loopw [12, 10] (fun s16 v wr => ∃ (t g3 cap3 : Nat) (ol : List Nat), t ≤ ns.length ∧ s16 = .int .i64 ((t : Int) - 1) ∧ v = .slice (some ⟨g3, 0, none⟩) ol.length cap3 ∧ ol = List.replicate j 0 ++ (ns.drop t).reverse ∧ wr.ownsRow w4.heap.size 5 1 (.slice (some ⟨g3, 0, none⟩) ol.length cap3) ol.length (ol.map vI) ∧ Below w4.heap.size w4 wr) (fun s16 _ _ => (intOf s16 + 1).toNat)
                case atStart => exact ⟨ns.length, g2, cap2, List.replicate j 0, Nat.le_refl _, rfl, by simp, by simp, by simpa using hown7, hb7⟩
                case round =>
                  obtain ⟨t, g3, cap3, ol, ht, rfl, rfl, hol, hown8, hb8⟩ := hrel
                  have hll : ol.length ≤ 20000 := by rw [hol]; simp; omega
                  have HOL := hid hol
                  clear hol
                  cases t with
                  | succ t =>
                    obtain ⟨d, hd, -⟩ := get_lt (show t < ns.length by omega)
                    have hcell : wr.cell? ⟨g, t, none⟩ = some (.int .u8 (d : Int)) := by
                      rw [hb8.cell (p := ⟨g, t, none⟩) (ownsG hown).2, hown.cellAt t (by omega), List.getElem?_map, hd]
                      rfl
                    have HDR := hid (show ns.drop t = d :: ns.drop (t + 1) by
                      have he := (List.getElem?_eq_some_iff.1 hd).2
                      rw [← he, List.getElem_cons_drop])
                    clear hd
                    go_wp2_with (at_builtin; refine app1 rfl _ _ rfl w4.heap.size g3 cap3 ol.length (ol.map vI) _ rfl rfl hown8 rfl (by omega) hb8.size ?_; intro g5 cap5 w5 hown5 hbel5 hkeep5 hat5)
                    have HR5 := hid (And.intro hown5 hbel5)
                    clear hown5 hbel5 hkeep5
                    go_wp2_with fail
                    go_roundw
                    case rel => exact ⟨t, g5, cap5, ol ++ [d], by omega, by go_num, by simp, by rw [HDR.out, HOL.out]; simp, by simp only [List.length_append, List.length_cons, List.length_nil, List.map_append, List.map_cons, List.map_nil]; exact HR5.out.1, hb8.trans HR5.out.2⟩
                    case measure => simp [intOf]
                  | zero =>
                    go_wp2_with fail
                    go_ret2
                    exact ⟨g3, cap3, ol, rfl, by rw [HOL.out, HD2.out]; rfl, hown8.bsAt, hown8.slOk, (ownsG hown8).2, bt hbl hb8⟩
end Go.Proofs.Qxb6629335a
