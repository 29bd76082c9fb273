import Derived.Test.Qxb6630591aDoorBld
import Derived.Lib.UnsafeStr
import Derived.Lib.AppendIntMem
import Derived.BigQuiet
import Derived.WalkSmall
namespace Go.Proofs.Qxb6630591aDoor
open Go.RowKit
set_option linter.unusedVariables false
set_option linter.unusedSimpArgs false

def SlOk (ao : Option Addr) (n c : Nat) : Prop := n ≤ c ∧ c ≤ maxLen ∧ (ao = none → n = 0 ∧ c = 0)
/-- Ints behind a slice. -/
def IsAt (w : World) (ao : Option Addr) (xs : List Int) : Prop := ∀ (k : Nat), k < xs.length → ∃ b o, ao = some ⟨b, o, none⟩ ∧ w.cell? ⟨b, o + k, none⟩ = some (.int .i64 (at' xs k))
theorem IsAt.keep {w w' : World} {ao : Option Addr} {xs : List Int} (hb : Below w.heap.size w w') (h : IsAt w ao xs) : IsAt w' ao xs := fun k hk => by
  obtain ⟨b, o, e, hc⟩ := h k hk
  exact ⟨b, o, e, cell_later hb hc⟩
theorem below_grow (w : World) (k : Nat) (os : Array Obj) : Below w.heap.size w (Go.Sort.grow (w.drewN k) os) := by
  refine ⟨rfl, rfl, rfl, ?_, fun i hi => ?_⟩
  · show w.heap.size ≤ (w.heap ++ os).size
    simp
  · show (w.heap ++ os)[i]? = _
    rw [Array.getElem?_append_left hi]
theorem inc_eq (x : Int) : inc x = wrap64 (x + 1) := by unfold inc wrap64; exact IntKind.wrap_i64 _
abbrev Tab (w : World) : Prop := Lib.TabIs Tryd.prog w tabName .u64 Lib.pow10Tab
def S (l : List UInt8) : ByteArray := ⟨l.toArray⟩
theorem S_size (l : List UInt8) : (S l).size = l.length := by simp [S, ByteArray.size]
theorem S_cells (l : List UInt8) : Lib.strCells (S l) = Lib.byteCells l := rfl
theorem itoa_any (n : Int) (h : InI n) (w : World) (htab : Tab w) :
    Calls Tryd.prog 15 #[.int .i64 n] w fun e w' => e = .returned (.string (S (it n))) ∧ Below w.heap.size w w' := by
  refine (Tryd.strconv_Itoa n h.1 h.2 w htab).mono ?_
  rintro e w' ⟨he, k, os, rfl⟩
  exact ⟨he, below_grow w k os⟩

set_option maxHeartbeats 2000000 in
theorem format_any (xs : List Int) (ao : Option Addr) (c : Nat) (w : World) (hok : SlOk ao xs.length c) (hat : IsAt w ao xs) (hin : ∀ x ∈ xs, InI x) (hlen : xs.length ≤ 131072) (htab : Tab w) :
    Calls Tryd.prog 7 #[.slice ao xs.length c] w fun e w' => e = .returned (.string (S (fm xs xs.length))) ∧ Below w.heap.size w w' := by
  have HOK := hid hok
  obtain ⟨ho1, ho2, ho3⟩ := hok
  unfold maxLen at ho2
  have HAT := hid hat
  have HTB := hid (Lib.tabBelow_of_tabIs htab)
  have HIN := hid hin
  have HLN := hid (fm_len hin)
  clear htab hat hin
  go_enter Tryd.func7, Tryd.ntmps7
  go_wp2_with fail
  go_loopw [4] (fun i wr => ∃ f : Nat, f ≤ xs.length ∧ i = .int .i64 f ∧ (Opens xs f ∨ f = xs.length) ∧ Lib.IsBuilder 32 5 w.heap.size w.heap.size (Lib.byteCells (fm xs f)) wr ∧ Below w.heap.size w wr) (fun i _ => xs.length - (intOf i).toNat)
  case atStart => exact ⟨0, Nat.zero_le _, rfl, Or.inl (Or.inl rfl), Lib.fresh_isBuilder 32 5 w, (Below.refl _ _).alloc (Nat.le_refl _) _⟩
  case round =>
    obtain ⟨f, hf, rfl, hop, hbd, hbl⟩ := hrel
    have HOP := hid hop
    have HBD := hid hbd
    clear hop hbd
    by_cases hfl : f < xs.length
    · obtain ⟨w1, rfl⟩ : ∃ x, x = wr := ⟨wr, rfl⟩
      go_wp2_with fail
      go_loopw [5] (fun i wr => ∃ l : Nat, f ≤ l ∧ l < xs.length ∧ i = .int .i64 l ∧ (∀ j, f < j → j ≤ l → ¬ Opens xs j) ∧ Below w1.heap.size w1 wr) (fun i _ => xs.length - (intOf i).toNat)
      case atStart => exact ⟨f, Nat.le_refl _, hfl, rfl, fun j h1 h2 => by omega, Below.refl _ _⟩
      case round =>
        obtain ⟨l, hfl1, hll, rfl, hmid, hb1⟩ := hrel
        have HMD := hid hmid
        clear hmid
        obtain ⟨b, o, he, hc1⟩ := (HAT.out.keep (bt hbl hb1)) l hll
        cases he
        by_cases hl1 : l + 1 < xs.length
        · obtain ⟨b2, o2, he2, hc2⟩ := (HAT.out.keep (bt hbl hb1)) (l + 1) hl1
          cases he2
          obtain ⟨x, HX⟩ : ∃ x, Hid (at' xs l = x) := ⟨_, rfl⟩
          obtain ⟨y, HY⟩ : ∃ x, Hid (at' xs (l + 1) = x) := ⟨_, rfl⟩
          rw [HX.out] at hc1
          rw [HY.out] at hc2
          have hg : decide ((l : Int) + 1 < (xs.length : Int)) = true := decide_eq_true (by omega)
          by_cases heq : y = wrap64 (x + 1)
          · have HNO := hid (show ¬ Opens xs (l + 1) by rw [opens_succ, HX.out, HY.out, inc_eq]; exact fun h => h heq.symm)
            have hd : (y == wrap64 (x + 1)) = true := by rw [heq]; simp
            clear heq
            go_wp2_with fail
            go_quiet (fail)
            go_wp2_with fail
            go_roundw
            case rel => exact ⟨l + 1, by omega, hl1, by go_num, fun j h1 h2 => by
              rcases Nat.lt_or_ge l j with h | h
              · obtain rfl : j = l + 1 := by omega
                exact HNO.out
              · exact HMD.out j h1 h, below_drewN hb1 _⟩
            case measure => simp [intOf]; omega
          · have HC := hid (show Closes xs l by rw [closes_iff, opens_succ, HX.out, HY.out, inc_eq]; exact Or.inr fun h => heq h.symm)
            have hd : (y == wrap64 (x + 1)) = false := by rw [beq_eq_false_iff_ne]; exact heq
            clear heq
            go_wp2_with fail
            go_quiet (fail)
            go_wp2_with fail
            clear hc2 hd hg
            obtain ⟨w2, HW2⟩ : ∃ x, Hid (x = wr.drewN nq) := ⟨_, rfl⟩
            rw [← HW2.out]
            have hbw2 : Below w1.heap.size w1 w2 := by rw [HW2.out]; exact below_drewN hb1 nq
            have HB2 := hid (bld_keep HBD.out hbw2)
            have HBW2 := hid (bt hbl hbw2)
            have HNX := hid (show Opens xs (l + 1) ∨ l + 1 = xs.length by rcases (closes_iff xs l).1 HC.out with h | h; exact Or.inr h; exact Or.inl h)
            have HRT := hid (run_text (xs := xs) (f := f) (l := l) (by rcases HOP.out with h | h; exact h; omega) hfl1 hll HMD.out HC.out)
            obtain ⟨x0, HX0⟩ : ∃ x, Hid (at' xs f = x) := ⟨_, rfl⟩
            have HI0 := hid (show InI x0 by rw [← HX0.out]; exact at_in HIN.out f)
            have HL1 := hid (show (fm xs f ++ sep f).length ≤ 5000000 by rw [List.length_append]; have := HLN.out f; have := sep_len f; omega)
            have HL2 := hid (show ((fm xs f ++ sep f) ++ it x0).length ≤ 6000000 by rw [List.length_append]; have := HL1.out; have := it_len HI0.out; omega)
            clear hc1 HW2 hbw2
            refine (Tryd.Builder_Len w.heap.size w.heap.size _ w2 HB2.out).mono ?_
            rintro e wq ⟨rfl, rfl⟩
            rw [Lib.byteCells_length]
            by_cases hf0 : f = 0
            · have hl0 : (fm xs f).length = 0 := by rw [hf0]; rfl
              rw [hl0]
              have HB3 : Hid (Lib.IsBuilder 32 5 w.heap.size w.heap.size (Lib.byteCells (fm xs f ++ sep f)) wq) := by
                have h3 := HB2.out
                rw [hf0] at h3 ⊢
                exact h3
              clear hf0 hl0
              have HBW3 := HBW2
              obtain ⟨w3, rfl⟩ : ∃ x, x = wq := ⟨wq, rfl⟩
              obtain ⟨b4, o4, he4, hc4⟩ := (HAT.out.keep HBW3.out) f hfl
              cases he4
              rw [HX0.out] at hc4
              go_wp2_with fail
              refine (itoa_any x0 HI0.out w3 (HTB.out w3 HBW3.out)).mono ?_
              rintro e w4 ⟨rfl, hb4⟩
              have HB4 := hid (bld_keep HB3.out hb4)
              have HBW4 := hid (HBW3.out.trans (hb4.mono HBW3.out.size))
              clear hb4
              go_wp2_with fail
              refine (writeString_any w.heap.size w.heap.size _ _ w4 HB4.out (by rw [Lib.byteCells_length, S_size]; have := HL1.out; have := it_len HI0.out; omega) HBW4.out.size).mono ?_
              rintro e w5 ⟨rfl, hbd5, hb5⟩
              have HBW5 := hid (HBW4.out.trans hb5)
              have HB5 := hid (show Lib.IsBuilder 32 5 w.heap.size w.heap.size (Lib.byteCells ((fm xs f ++ sep f) ++ it x0)) w5 by rw [Lib.byteCells_append, ← S_cells (it x0)]; exact hbd5)
              clear hbd5 hb5
              by_cases hfl2 : f < l
              · have hBw5 : Below w.heap.size w w5 := HBW5.out
                go_wp2_with fail
                refine (writeByte_any w.heap.size w.heap.size _ 45 w5 HB5.out (by rw [Lib.byteCells_length]; have := HL2.out; omega) hBw5.size).mono ?_
                rintro e w6 ⟨rfl, hbd6, hb6⟩
                have HBW6 := hid (hBw5.trans hb6)
                have HB6 := hid (show Lib.IsBuilder 32 5 w.heap.size w.heap.size (Lib.byteCells (((fm xs f ++ sep f) ++ it x0) ++ [45])) w6 by rw [Lib.byteCells_append]; exact hbd6)
                obtain ⟨b7, o7, he7, hc7⟩ := (HAT.out.keep HBW6.out) l hll
                cases he7
                obtain ⟨xl, HXL⟩ : ∃ x, Hid (at' xs l = x) := ⟨_, rfl⟩
                rw [HXL.out] at hc7
                have HIL := hid (show InI xl by rw [← HXL.out]; exact at_in HIN.out l)
                clear hbd6 hb6
                go_wp2_with fail
                refine (itoa_any xl HIL.out w6 (HTB.out w6 HBW6.out)).mono ?_
                rintro e w8 ⟨rfl, hb8⟩
                have HB8 := hid (bld_keep HB6.out hb8)
                have HBW8 := hid (HBW6.out.trans (hb8.mono HBW6.out.size))
                clear hb8
                go_wp2_with fail
                refine (writeString_any w.heap.size w.heap.size _ _ w8 HB8.out (by rw [Lib.byteCells_length, S_size, List.length_append]; have := HL2.out; have := it_len HIL.out; simp only [List.length_cons, List.length_nil]; omega) HBW8.out.size).mono ?_
                rintro e w9 ⟨rfl, hbd9, hb9⟩
                have HBW9 := hid (HBW8.out.trans hb9)
                have HB9 := hid (show Lib.IsBuilder 32 5 w.heap.size w.heap.size (Lib.byteCells (fm xs (l + 1))) w9 by
                  rw [HRT.out, if_pos hfl2, HX0.out, HXL.out, ← S_cells] at *
                  rw [S_cells, show fm xs f ++ sep f ++ it x0 ++ 45 :: it xl = (((fm xs f ++ sep f) ++ it x0) ++ [45]) ++ it xl by simp, Lib.byteCells_append, ← S_cells (it xl)]
                  exact hbd9)
                clear hbd9 hb9
                go_wp2_with fail
                go_roundw
                case rel => exact ⟨l + 1, by omega, by go_num, HNX.out, HB9.out, HBW9.out⟩
                case measure => simp [intOf]; omega
              · have HB9 := hid (show Lib.IsBuilder 32 5 w.heap.size w.heap.size (Lib.byteCells (fm xs (l + 1))) w5 by
                  rw [HRT.out, if_neg hfl2, HX0.out, List.append_nil]
                  exact HB5.out)
                go_wp2_with fail
                go_roundw
                case rel => exact ⟨l + 1, by omega, by go_num, HNX.out, HB9.out, HBW5.out⟩
                case measure => simp [intOf]; omega
            · have hl0 : 0 < (fm xs f).length := List.length_pos_iff.2 (fm_ne xs (by omega))
              have hl1 : (fm xs f).length ≤ 4000000 := by have := HLN.out f; omega
              obtain ⟨m, HM⟩ : ∃ m, Hid ((fm xs f).length = m) := ⟨_, rfl⟩
              rw [HM.out] at hl0 hl1 ⊢
              go_wp2_with fail
              refine (writeByte_any w.heap.size w.heap.size _ 44 wq HB2.out (by rw [Lib.byteCells_length, HM.out]; omega) HBW2.out.size).mono ?_
              rintro e w3 ⟨rfl, hbd3, hb3⟩
              have HBW3 := hid (HBW2.out.trans hb3)
              have HB3 := hid (show Lib.IsBuilder 32 5 w.heap.size w.heap.size (Lib.byteCells (fm xs f ++ sep f)) w3 by
                unfold sep
                rw [if_pos (by omega), Lib.byteCells_append]
                exact hbd3)
              clear hbd3 hb3
              obtain ⟨b4, o4, he4, hc4⟩ := (HAT.out.keep HBW3.out) f hfl
              cases he4
              rw [HX0.out] at hc4
              go_wp2_with fail
              refine (itoa_any x0 HI0.out w3 (HTB.out w3 HBW3.out)).mono ?_
              rintro e w4 ⟨rfl, hb4⟩
              have HB4 := hid (bld_keep HB3.out hb4)
              have HBW4 := hid (HBW3.out.trans (hb4.mono HBW3.out.size))
              clear hb4
              go_wp2_with fail
              refine (writeString_any w.heap.size w.heap.size _ _ w4 HB4.out (by rw [Lib.byteCells_length, S_size]; have := HL1.out; have := it_len HI0.out; omega) HBW4.out.size).mono ?_
              rintro e w5 ⟨rfl, hbd5, hb5⟩
              have HBW5 := hid (HBW4.out.trans hb5)
              have HB5 := hid (show Lib.IsBuilder 32 5 w.heap.size w.heap.size (Lib.byteCells ((fm xs f ++ sep f) ++ it x0)) w5 by rw [Lib.byteCells_append, ← S_cells (it x0)]; exact hbd5)
              clear hbd5 hb5
              by_cases hfl2 : f < l
              · have hBw5 : Below w.heap.size w w5 := HBW5.out
                go_wp2_with fail
                refine (writeByte_any w.heap.size w.heap.size _ 45 w5 HB5.out (by rw [Lib.byteCells_length]; have := HL2.out; omega) hBw5.size).mono ?_
                rintro e w6 ⟨rfl, hbd6, hb6⟩
                have HBW6 := hid (hBw5.trans hb6)
                have HB6 := hid (show Lib.IsBuilder 32 5 w.heap.size w.heap.size (Lib.byteCells (((fm xs f ++ sep f) ++ it x0) ++ [45])) w6 by rw [Lib.byteCells_append]; exact hbd6)
                obtain ⟨b7, o7, he7, hc7⟩ := (HAT.out.keep HBW6.out) l hll
                cases he7
                obtain ⟨xl, HXL⟩ : ∃ x, Hid (at' xs l = x) := ⟨_, rfl⟩
                rw [HXL.out] at hc7
                have HIL := hid (show InI xl by rw [← HXL.out]; exact at_in HIN.out l)
                clear hbd6 hb6
                go_wp2_with fail
                refine (itoa_any xl HIL.out w6 (HTB.out w6 HBW6.out)).mono ?_
                rintro e w8 ⟨rfl, hb8⟩
                have HB8 := hid (bld_keep HB6.out hb8)
                have HBW8 := hid (HBW6.out.trans (hb8.mono HBW6.out.size))
                clear hb8
                go_wp2_with fail
                refine (writeString_any w.heap.size w.heap.size _ _ w8 HB8.out (by rw [Lib.byteCells_length, S_size, List.length_append]; have := HL2.out; have := it_len HIL.out; simp only [List.length_cons, List.length_nil]; omega) HBW8.out.size).mono ?_
                rintro e w9 ⟨rfl, hbd9, hb9⟩
                have HBW9 := hid (HBW8.out.trans hb9)
                have HB9 := hid (show Lib.IsBuilder 32 5 w.heap.size w.heap.size (Lib.byteCells (fm xs (l + 1))) w9 by
                  rw [HRT.out, if_pos hfl2, HX0.out, HXL.out, ← S_cells] at *
                  rw [S_cells, show fm xs f ++ sep f ++ it x0 ++ 45 :: it xl = (((fm xs f ++ sep f) ++ it x0) ++ [45]) ++ it xl by simp, Lib.byteCells_append, ← S_cells (it xl)]
                  exact hbd9)
                clear hbd9 hb9
                go_wp2_with fail
                go_roundw
                case rel => exact ⟨l + 1, by omega, by go_num, HNX.out, HB9.out, HBW9.out⟩
                case measure => simp [intOf]; omega
              · have HB9 := hid (show Lib.IsBuilder 32 5 w.heap.size w.heap.size (Lib.byteCells (fm xs (l + 1))) w5 by
                  rw [HRT.out, if_neg hfl2, HX0.out, List.append_nil]
                  exact HB5.out)
                go_wp2_with fail
                go_roundw
                case rel => exact ⟨l + 1, by omega, by go_num, HNX.out, HB9.out, HBW5.out⟩
                case measure => simp [intOf]; omega
        · have HC := hid (show Closes xs l from Or.inl (by omega))
          have hg : decide ((l : Int) + 1 < (xs.length : Int)) = false := decide_eq_false (by omega)
          go_wp2_with fail
          go_quiet (fail)
          go_wp2_with fail
          clear hg
          obtain ⟨w2, HW2⟩ : ∃ x, Hid (x = wr.drewN nq) := ⟨_, rfl⟩
          rw [← HW2.out]
          have hbw2 : Below w1.heap.size w1 w2 := by rw [HW2.out]; exact below_drewN hb1 nq
          have HB2 := hid (bld_keep HBD.out hbw2)
          have HBW2 := hid (bt hbl hbw2)
          have HNX := hid (show Opens xs (l + 1) ∨ l + 1 = xs.length by rcases (closes_iff xs l).1 HC.out with h | h; exact Or.inr h; exact Or.inl h)
          have HRT := hid (run_text (xs := xs) (f := f) (l := l) (by rcases HOP.out with h | h; exact h; omega) hfl1 hll HMD.out HC.out)
          obtain ⟨x0, HX0⟩ : ∃ x, Hid (at' xs f = x) := ⟨_, rfl⟩
          have HI0 := hid (show InI x0 by rw [← HX0.out]; exact at_in HIN.out f)
          have HL1 := hid (show (fm xs f ++ sep f).length ≤ 5000000 by rw [List.length_append]; have := HLN.out f; have := sep_len f; omega)
          have HL2 := hid (show ((fm xs f ++ sep f) ++ it x0).length ≤ 6000000 by rw [List.length_append]; have := HL1.out; have := it_len HI0.out; omega)
          clear hc1 HW2 hbw2
          refine (Tryd.Builder_Len w.heap.size w.heap.size _ w2 HB2.out).mono ?_
          rintro e wq ⟨rfl, rfl⟩
          rw [Lib.byteCells_length]
          by_cases hf0 : f = 0
          · have hl0 : (fm xs f).length = 0 := by rw [hf0]; rfl
            rw [hl0]
            have HB3 : Hid (Lib.IsBuilder 32 5 w.heap.size w.heap.size (Lib.byteCells (fm xs f ++ sep f)) wq) := by
              have h3 := HB2.out
              rw [hf0] at h3 ⊢
              exact h3
            clear hf0 hl0
            have HBW3 := HBW2
            obtain ⟨w3, rfl⟩ : ∃ x, x = wq := ⟨wq, rfl⟩
            obtain ⟨b4, o4, he4, hc4⟩ := (HAT.out.keep HBW3.out) f hfl
            cases he4
            rw [HX0.out] at hc4
            go_wp2_with fail
            refine (itoa_any x0 HI0.out w3 (HTB.out w3 HBW3.out)).mono ?_
            rintro e w4 ⟨rfl, hb4⟩
            have HB4 := hid (bld_keep HB3.out hb4)
            have HBW4 := hid (HBW3.out.trans (hb4.mono HBW3.out.size))
            clear hb4
            go_wp2_with fail
            refine (writeString_any w.heap.size w.heap.size _ _ w4 HB4.out (by rw [Lib.byteCells_length, S_size]; have := HL1.out; have := it_len HI0.out; omega) HBW4.out.size).mono ?_
            rintro e w5 ⟨rfl, hbd5, hb5⟩
            have HBW5 := hid (HBW4.out.trans hb5)
            have HB5 := hid (show Lib.IsBuilder 32 5 w.heap.size w.heap.size (Lib.byteCells ((fm xs f ++ sep f) ++ it x0)) w5 by rw [Lib.byteCells_append, ← S_cells (it x0)]; exact hbd5)
            clear hbd5 hb5
            by_cases hfl2 : f < l
            · have hBw5 : Below w.heap.size w w5 := HBW5.out
              go_wp2_with fail
              refine (writeByte_any w.heap.size w.heap.size _ 45 w5 HB5.out (by rw [Lib.byteCells_length]; have := HL2.out; omega) hBw5.size).mono ?_
              rintro e w6 ⟨rfl, hbd6, hb6⟩
              have HBW6 := hid (hBw5.trans hb6)
              have HB6 := hid (show Lib.IsBuilder 32 5 w.heap.size w.heap.size (Lib.byteCells (((fm xs f ++ sep f) ++ it x0) ++ [45])) w6 by rw [Lib.byteCells_append]; exact hbd6)
              obtain ⟨b7, o7, he7, hc7⟩ := (HAT.out.keep HBW6.out) l hll
              cases he7
              obtain ⟨xl, HXL⟩ : ∃ x, Hid (at' xs l = x) := ⟨_, rfl⟩
              rw [HXL.out] at hc7
              have HIL := hid (show InI xl by rw [← HXL.out]; exact at_in HIN.out l)
              clear hbd6 hb6
              go_wp2_with fail
              refine (itoa_any xl HIL.out w6 (HTB.out w6 HBW6.out)).mono ?_
              rintro e w8 ⟨rfl, hb8⟩
              have HB8 := hid (bld_keep HB6.out hb8)
              have HBW8 := hid (HBW6.out.trans (hb8.mono HBW6.out.size))
              clear hb8
              go_wp2_with fail
              refine (writeString_any w.heap.size w.heap.size _ _ w8 HB8.out (by rw [Lib.byteCells_length, S_size, List.length_append]; have := HL2.out; have := it_len HIL.out; simp only [List.length_cons, List.length_nil]; omega) HBW8.out.size).mono ?_
              rintro e w9 ⟨rfl, hbd9, hb9⟩
              have HBW9 := hid (HBW8.out.trans hb9)
              have HB9 := hid (show Lib.IsBuilder 32 5 w.heap.size w.heap.size (Lib.byteCells (fm xs (l + 1))) w9 by
                rw [HRT.out, if_pos hfl2, HX0.out, HXL.out, ← S_cells] at *
                rw [S_cells, show fm xs f ++ sep f ++ it x0 ++ 45 :: it xl = (((fm xs f ++ sep f) ++ it x0) ++ [45]) ++ it xl by simp, Lib.byteCells_append, ← S_cells (it xl)]
                exact hbd9)
              clear hbd9 hb9
              go_wp2_with fail
              go_roundw
              case rel => exact ⟨l + 1, by omega, by go_num, HNX.out, HB9.out, HBW9.out⟩
              case measure => simp [intOf]; omega
            · have HB9 := hid (show Lib.IsBuilder 32 5 w.heap.size w.heap.size (Lib.byteCells (fm xs (l + 1))) w5 by
                rw [HRT.out, if_neg hfl2, HX0.out, List.append_nil]
                exact HB5.out)
              go_wp2_with fail
              go_roundw
              case rel => exact ⟨l + 1, by omega, by go_num, HNX.out, HB9.out, HBW5.out⟩
              case measure => simp [intOf]; omega
          · have hl0 : 0 < (fm xs f).length := List.length_pos_iff.2 (fm_ne xs (by omega))
            have hl1 : (fm xs f).length ≤ 4000000 := by have := HLN.out f; omega
            obtain ⟨m, HM⟩ : ∃ m, Hid ((fm xs f).length = m) := ⟨_, rfl⟩
            rw [HM.out] at hl0 hl1 ⊢
            go_wp2_with fail
            refine (writeByte_any w.heap.size w.heap.size _ 44 wq HB2.out (by rw [Lib.byteCells_length, HM.out]; omega) HBW2.out.size).mono ?_
            rintro e w3 ⟨rfl, hbd3, hb3⟩
            have HBW3 := hid (HBW2.out.trans hb3)
            have HB3 := hid (show Lib.IsBuilder 32 5 w.heap.size w.heap.size (Lib.byteCells (fm xs f ++ sep f)) w3 by
              unfold sep
              rw [if_pos (by omega), Lib.byteCells_append]
              exact hbd3)
            clear hbd3 hb3
            obtain ⟨b4, o4, he4, hc4⟩ := (HAT.out.keep HBW3.out) f hfl
            cases he4
            rw [HX0.out] at hc4
            go_wp2_with fail
            refine (itoa_any x0 HI0.out w3 (HTB.out w3 HBW3.out)).mono ?_
            rintro e w4 ⟨rfl, hb4⟩
            have HB4 := hid (bld_keep HB3.out hb4)
            have HBW4 := hid (HBW3.out.trans (hb4.mono HBW3.out.size))
            clear hb4
            go_wp2_with fail
            refine (writeString_any w.heap.size w.heap.size _ _ w4 HB4.out (by rw [Lib.byteCells_length, S_size]; have := HL1.out; have := it_len HI0.out; omega) HBW4.out.size).mono ?_
            rintro e w5 ⟨rfl, hbd5, hb5⟩
            have HBW5 := hid (HBW4.out.trans hb5)
            have HB5 := hid (show Lib.IsBuilder 32 5 w.heap.size w.heap.size (Lib.byteCells ((fm xs f ++ sep f) ++ it x0)) w5 by rw [Lib.byteCells_append, ← S_cells (it x0)]; exact hbd5)
            clear hbd5 hb5
            by_cases hfl2 : f < l
            · have hBw5 : Below w.heap.size w w5 := HBW5.out
              go_wp2_with fail
              refine (writeByte_any w.heap.size w.heap.size _ 45 w5 HB5.out (by rw [Lib.byteCells_length]; have := HL2.out; omega) hBw5.size).mono ?_
              rintro e w6 ⟨rfl, hbd6, hb6⟩
              have HBW6 := hid (hBw5.trans hb6)
              have HB6 := hid (show Lib.IsBuilder 32 5 w.heap.size w.heap.size (Lib.byteCells (((fm xs f ++ sep f) ++ it x0) ++ [45])) w6 by rw [Lib.byteCells_append]; exact hbd6)
              obtain ⟨b7, o7, he7, hc7⟩ := (HAT.out.keep HBW6.out) l hll
              cases he7
              obtain ⟨xl, HXL⟩ : ∃ x, Hid (at' xs l = x) := ⟨_, rfl⟩
              rw [HXL.out] at hc7
              have HIL := hid (show InI xl by rw [← HXL.out]; exact at_in HIN.out l)
              clear hbd6 hb6
              go_wp2_with fail
              refine (itoa_any xl HIL.out w6 (HTB.out w6 HBW6.out)).mono ?_
              rintro e w8 ⟨rfl, hb8⟩
              have HB8 := hid (bld_keep HB6.out hb8)
              have HBW8 := hid (HBW6.out.trans (hb8.mono HBW6.out.size))
              clear hb8
              go_wp2_with fail
              refine (writeString_any w.heap.size w.heap.size _ _ w8 HB8.out (by rw [Lib.byteCells_length, S_size, List.length_append]; have := HL2.out; have := it_len HIL.out; simp only [List.length_cons, List.length_nil]; omega) HBW8.out.size).mono ?_
              rintro e w9 ⟨rfl, hbd9, hb9⟩
              have HBW9 := hid (HBW8.out.trans hb9)
              have HB9 := hid (show Lib.IsBuilder 32 5 w.heap.size w.heap.size (Lib.byteCells (fm xs (l + 1))) w9 by
                rw [HRT.out, if_pos hfl2, HX0.out, HXL.out, ← S_cells] at *
                rw [S_cells, show fm xs f ++ sep f ++ it x0 ++ 45 :: it xl = (((fm xs f ++ sep f) ++ it x0) ++ [45]) ++ it xl by simp, Lib.byteCells_append, ← S_cells (it xl)]
                exact hbd9)
              clear hbd9 hb9
              go_wp2_with fail
              go_roundw
              case rel => exact ⟨l + 1, by omega, by go_num, HNX.out, HB9.out, HBW9.out⟩
              case measure => simp [intOf]; omega
            · have HB9 := hid (show Lib.IsBuilder 32 5 w.heap.size w.heap.size (Lib.byteCells (fm xs (l + 1))) w5 by
                rw [HRT.out, if_neg hfl2, HX0.out, List.append_nil]
                exact HB5.out)
              go_wp2_with fail
              go_roundw
              case rel => exact ⟨l + 1, by omega, by go_num, HNX.out, HB9.out, HBW5.out⟩
              case measure => simp [intOf]; omega
    · obtain rfl : f = xs.length := by omega
      go_wp2_with fail
      refine (Tryd.Builder_String_any w.heap.size w.heap.size _ wr HBD.out hbl.size).mono ?_
      rintro e w9 ⟨rfl, hb9⟩
      go_wp2_with fail
      go_ret
      exact ⟨rfl, hbl.trans hb9⟩
end Go.Proofs.Qxb6630591aDoor
