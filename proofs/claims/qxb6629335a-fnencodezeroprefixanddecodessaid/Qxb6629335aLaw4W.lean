import Derived.Test.Qxb6629335aLaw4
import Derived.WalkSmall
namespace Go.Proofs.Qxb6629335a
open Go.RowKit
set_option linter.unusedVariables false
set_option linter.unusedSimpArgs false

set_option maxHeartbeats 2000000 in
theorem law4_walk (a0 : Option Addr) (len0 cap0 : Nat) (z0 : List Int) (w : World) (w0 : IsRow .u8 w a0 len0 cap0 z0) :
    Calls Try.prog 4 #[.slice a0 len0 cap0] w fun e w' => e = .returned (.bool true) ∧ Below w.heap.size w w' := by
  rcases w0 with ⟨rfl, rfl, rfl, rfl⟩ | ⟨x, rfl, hl, hm, hz, hc, hw⟩
  · go_enter Try.func4, Try.ntmps4
    go_wp2_with fail
    refine (zzBytes8_any _ _ _ (by unfold maxLen; omega) _).mono ?_
    rintro e wq ⟨⟨b, rfl⟩, rfl⟩
    cases b with
    | false =>
      go_wp2_with fail
      go_ret
      exact ⟨rfl, Below.refl _ _⟩
    | true =>
      go_wp2_with fail
      refine (encode_any [] none 0 wq ⟨Nat.le_refl _, by unfold maxLen; omega, fun _ => ⟨rfl, rfl⟩⟩ (fun k x hx => by cases hx) (fun x hx => by cases hx) (by simp)).mono ?_
      rintro e w3 ⟨rfl, hb3⟩
      obtain ⟨s, HS⟩ : ∃ s, Hid (encS [] = s) := ⟨_, rfl⟩
      have hsl : s.size = 0 := by rw [← HS.out]; have := encS_le [] (fun x hx => by cases hx); simpa using this
      have HT := hid (show encS [0] = (⟨#[49]⟩ : ByteArray) ++ s by rw [← HS.out]; exact encS_cons0 [])
      rw [HS.out]
      go_wp2_with (at_builtin; refine app_src rfl _ _ rfl [] none 0 ⟨Nat.le_refl _, by unfold maxLen; omega, fun _ => ⟨rfl, rfl⟩⟩ (fun k x hx => by cases hx) (by simp) rfl rfl ?_; intro g4 cap4 w4 hbs4 hok4 hb4)
      refine (encode_any [0] _ _ w4 hok4 hbs4 (fun x hx => by simp at hx; omega) (by simp)).mono ?_
      rintro e w5 ⟨rfl, hb5⟩
      rw [HT.out]
      go_wp2_with fail
      rw [← HS.out]
      refine (decode_enc [] (fun x hx => by cases hx) (by simp) w5).mono ?_
      rintro e w6 ⟨g, cap, rfl, hbs6, hcap6, hb6⟩
      go_wp2_with fail
      go_loop [8] (fun i => i = .int .i64 0) (fun i => 0)
      case atStart => exact rfl
      case round =>
        subst hrel
        go_wp2_with fail
        go_ret
        exact ⟨rfl, bt hb3 (bt hb4 (bt hb5 hb6))⟩
  · have hm' := hm
    unfold maxLen at hm'
    obtain ⟨xs, rfl, hlt, hcell⟩ := bytes_of hl hz hc hw
    have HC := hid hcell
    have HLT := hid hlt
    clear hc hw hcell hlt hz
    by_cases h4 : xs.length ≤ 4096
    · go_enter Try.func4, Try.ntmps4
      go_wp2_with fail
      refine (zzBytes8_any _ _ _ (by omega) _).mono ?_
      rintro e wq ⟨⟨b, rfl⟩, rfl⟩
      cases b with
      | false =>
        go_wp2_with fail
        go_ret
        exact ⟨rfl, Below.refl _ _⟩
      | true =>
        obtain ⟨vs, HVS⟩ : ∃ vs, Hid (vs = xs.map vI) := ⟨_, rfl⟩
        have HVL := hid (show vs.length = xs.length by rw [HVS.out]; simp)
        go_wp2_with (at_make; refine make_row rfl _ _ 22 rfl 5 _ 1 1 Try.underlying22 info5 _ _ _ _ xs.length rfl rfl ?b0 ?b1 ?b2 ?b3 ?_)
        case b0 => omega
        case b1 => omega
        case b2 => omega
        case b3 => unfold maxLen; omega
        intro w1 cur1 hcur1 hcs1 hb1
        have HP1 := hid (show ∀ j v, vs[j]? = some v → w1.cell? (x.add j) = some v from fun j v hv => by
          rw [HVS.out, List.getElem?_map] at hv
          obtain ⟨y, hy, rfl⟩ := Option.map_eq_some_iff.1 hv
          exact cell_later hb1 (HC.out j y hy))
        have HP2 := hid (show 0 + vs.length ≤ cur1.toList.length by rw [HVL.out]; simp [hcs1])
        have HP3 := hid (show ∀ v ∈ vs, v.oneCell' = true by rw [HVS.out]; intro v hv; obtain ⟨y, _, rfl⟩ := List.mem_map.1 hv; rfl)
        have HP4 := hid (show vs.length = Nat.min xs.length xs.length by rw [HVL.out]; exact (Nat.min_self _).symm)
        go_wp2_with (refine wpList_copy_splice rfl _ _ 22 22 rfl 5 Try.underlying22 (by kernel_rfl) _ _ _ _ _ _ rfl rfl wq.heap.size 0 cur1.toList 5 hcur1 vs HP4.out (fun _ => ⟨rfl, x, rfl, HP1.out⟩) HP2.out HP3.out wq.heap.size wq hb1 (Nat.le_refl _) ?_; intro w2 hg2 hb2)
        have hbs : BsAt w2 (some ⟨wq.heap.size, 0, none⟩) xs := by
          intro k y hy
          refine ⟨_, _, rfl, ?_⟩
          have hk := (List.getElem?_eq_some_iff.1 hy).1
          rw [cell_of_row _ _ _ _ _ _ hg2.out]
          have e1 : splice cur1.toList 0 vs = vs := by
            unfold splice
            rw [List.drop_eq_nil_of_le (by rw [HVL.out]; simp [hcs1])]
            simp
          rw [e1, HVS.out]
          simp [hy, vI]
        have hok : SlOk (some ⟨wq.heap.size, 0, none⟩) xs.length xs.length := ⟨Nat.le_refl _, by omega, fun h => by cases h⟩
        clear hg2
        go_wp2_with fail
        refine (encode_any xs _ _ w2 hok hbs HLT.out (by omega)).mono ?_
        rintro e w3 ⟨rfl, hb3⟩
        have hbs3 := hbs.keep hb3
        obtain ⟨s, HS⟩ : ∃ s, Hid (encS xs = s) := ⟨_, rfl⟩
        have hsl : s.size ≤ 2 * xs.length := by rw [← HS.out]; exact encS_le xs HLT.out
        have HT := hid (show encS (0 :: xs) = (⟨#[49]⟩ : ByteArray) ++ s by rw [← HS.out]; exact encS_cons0 xs)
        rw [HS.out]
        go_wp2_with (at_builtin; refine app_src rfl _ _ rfl xs _ _ hok hbs3 (by omega) rfl rfl ?_; intro g4 cap4 w4 hbs4 hok4 hb4)
        refine (encode_any (0 :: xs) _ _ w4 hok4 hbs4 (fun x hx => by rcases List.mem_cons.1 hx with rfl | h; omega; exact HLT.out x h) (by simp; omega)).mono ?_
        rintro e w5 ⟨rfl, hb5⟩
        rw [HT.out]
        have HB5 := hid (hbs3.keep (bt hb4 hb5))
        go_wp2_with fail
        rw [← HS.out]
        refine (decode_enc xs HLT.out (by omega) w5).mono ?_
        rintro e w6 ⟨g, cap, rfl, hbs6, hcap6, hb6⟩
        have HB6 := hid hbs6
        have HB7 := hid (HB5.out.keep hb6)
        clear hbs hbs3 hbs4 hbs6
        go_wp2_with fail
        go_loopw [8] (fun i wr => ∃ k : Nat, k ≤ xs.length ∧ i = .int .i64 k ∧ Below w6.heap.size w6 wr) (fun i _ => xs.length - (intOf i).toNat)
        case atStart => exact ⟨0, Nat.zero_le _, rfl, Below.refl _ _⟩
        case round =>
          obtain ⟨k, hk, rfl, hbr⟩ := hrel
          by_cases hkl : k < xs.length
          · obtain ⟨y, hy, hym⟩ := get_lt hkl
            obtain ⟨b1, o1, he1, hc1⟩ := (HB6.out.keep hbr) k y hy
            cases he1
            obtain ⟨b2, o2, he2, hc2⟩ := (HB7.out.keep hbr) k y hy
            cases he2
            rw [Nat.zero_add] at hc1 hc2
            clear hy
            go_wp2_with fail
            go_quiet (fail)
            go_wp2_with fail
            go_roundw
            case rel => exact ⟨k + 1, by omega, by go_num, below_drewN hbr _⟩
            case measure => simp [intOf]; omega
          · go_wp2_with fail
            go_ret
            exact ⟨rfl, bt hb2 (bt hb3 (bt hb4 (bt hb5 (bt hb6 hbr))))⟩
    · go_enter Try.func4, Try.ntmps4
      go_wp2_with fail
      refine (zzBytes8_any _ _ _ (by omega) _).mono ?_
      rintro e wq ⟨⟨b, rfl⟩, rfl⟩
      cases b with
      | false =>
        go_wp2_with fail
        go_ret
        exact ⟨rfl, Below.refl _ _⟩
      | true =>
        go_wp2_with fail
        go_ret
        exact ⟨rfl, Below.refl _ _⟩
end Go.Proofs.Qxb6629335a
