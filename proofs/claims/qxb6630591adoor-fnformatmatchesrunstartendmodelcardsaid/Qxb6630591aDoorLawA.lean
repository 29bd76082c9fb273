import Derived.Test.Qxb6630591aDoorCl
namespace Go.Proofs.Qxb6630591aDoor
open Go.RowKit
set_option linter.unusedVariables false
set_option linter.unusedSimpArgs false

set_option maxHeartbeats 4000000 in
theorem lawA_walk (a0 : Option Addr) (len0 cap0 : Nat) (z0 : List Int) (w : World) (w0 : IsRow .i64 w a0 len0 cap0 z0) (htab : Tab w) :
    Calls Tryd.prog 3 #[.slice a0 len0 cap0] w fun e w' => e = .returned (.bool true) ∧ Below w.heap.size w w' := by
  obtain ⟨i0, hi, hz0, hz1, hz2⟩ := info_parts info5
  rcases w0 with ⟨rfl, rfl, rfl, rfl⟩ | ⟨x, rfl, hl, hm, hz, hc, hw⟩
  · go_enter Tryd.func3, Tryd.ntmps3
    go_wp2_with fail
    refine (bytesA_any _ _ _ (by unfold maxLen; omega) _).mono ?_
    rintro e wq ⟨⟨b, rfl⟩, rfl⟩
    cases b with
    | false =>
      go_wp2_with fail
      go_ret
      exact ⟨rfl, Below.refl _ _⟩
    | true =>
      go_wp2_with fail
      refine (clone_nil wq).mono ?_
      rintro e wq2 ⟨rfl, rfl⟩
      go_wp2_with fail
      refine (format_any [] none 0 wq2 ⟨Nat.le_refl _, by unfold maxLen; omega, fun _ => ⟨rfl, rfl⟩⟩ (fun k hk => by simp at hk) (fun x hx => by cases hx) (by simp) htab).mono ?_
      rintro e w3 ⟨rfl, hb3⟩
      have hcv : ∀ ww : World, (convert 26 9 (.slice none 0 0)).run Tryd.prog ww = .ok (.string (S (fm [] 0))) ww := fun ww => run_convert_bytes_nil ww 26 5 Tryd.underlying26 Tryd.underlying5 0 0 9 Tryd.underlying9
      go_wp2_with fail
      go_loop [6, 5] (fun i v => i = .int .i64 0 ∧ v = .slice none 0 0) (fun _ _ => 0)
      case atStart => exact ⟨rfl, rfl⟩
      case round =>
        obtain ⟨rfl, rfl⟩ := hrel
        go_wp2_with fail
        go_ret
        exact ⟨by simp, hb3⟩
  · have hm' := hm
    unfold maxLen at hm'
    obtain ⟨xs, rfl, hin, hcell⟩ := ints_of hl hz hc hw
    have HC := hid hcell
    have HIN := hid hin
    have HLN := hid (fm_len hin)
    have HTB := hid (Lib.tabBelow_of_tabIs htab)
    clear hc hw hcell hin hz htab
    by_cases h4 : xs.length ≤ 131072
    · go_enter Tryd.func3, Tryd.ntmps3
      go_wp2_with fail
      refine (bytesA_any _ _ _ (Nat.le_trans hl hm) _).mono ?_
      rintro e wq ⟨⟨b, rfl⟩, rfl⟩
      cases b with
      | false =>
        go_wp2_with fail
        go_ret
        exact ⟨rfl, Below.refl _ _⟩
      | true =>
        go_wp2_with fail
        refine (clone_row x xs cap0 wq hl hm h4 HC.out).mono ?_
        rintro e w2 ⟨rfl, hat, hb2⟩
        have HAT := hid hat
        clear hat
        go_wp2_with fail
        refine (format_any xs _ xs.length w2 ⟨Nat.le_refl _, Nat.le_trans hl hm, fun h => by cases h⟩ HAT.out HIN.out h4 (HTB.out w2 hb2)).mono ?_
        rintro e w3 ⟨rfl, hb3⟩
        go_wp2_with fail
        go_loopw [6, 5] (fun s6 s5 wr => ∃ (i : Nat) (v : Value), i ≤ xs.length ∧ s6 = .int .i64 i ∧ v = s5 ∧ wr.ownsRow w3.heap.size 5 1 v (fm xs i).length (Lib.byteCells (fm xs i)) ∧ Below w3.heap.size w3 wr) (fun s6 _ _ => xs.length - (intOf s6).toNat)
        case atStart => exact ⟨0, _, Nat.zero_le _, rfl, rfl, World.ownsRow_nil _ _ _ _, Below.refl _ _⟩
        case round =>
          obtain ⟨i, v, hi1, rfl, hv5, hown, hbr⟩ := hrel
          subst hv5
          have HOW := hid hown
          have HBR := hid hbr
          have HBW := hid (bt hb2 (bt hb3 hbr))
          have HBA := hid (bt hb3 hbr)
          have HLI := hid (show (fm xs i).length ≤ 4000000 by have := HLN.out i; omega)
          clear hown hbr
          by_cases hil : i < xs.length
          · obtain ⟨bc, oc, hec, hcc⟩ := (HAT.out.keep HBA.out) i hil
            cases hec
            rw [Nat.zero_add] at hcc
            obtain ⟨x, HX⟩ : ∃ y, Hid (at' xs i = y) := ⟨_, hid rfl⟩
            rw [HX.out] at hcc
            have HXI := hid (show InI x by rw [← HX.out]; exact at_in HIN.out i)
            by_cases hi0 : i = 0
            · have HOP := hid (show Opens xs i from Or.inl hi0)
              have hib : ((i : Int) == 0) = true := by rw [beq_iff_eq]; omega
              have hig : ¬ 0 < (i : Int) := by omega
              clear hi0
              by_cases hlast : i + 1 < xs.length
              · obtain ⟨bn, on, hen, hcn⟩ := (HAT.out.keep HBA.out) (i + 1) hlast
                cases hen
                rw [Nat.zero_add] at hcn
                obtain ⟨y, HY⟩ : ∃ y, Hid (at' xs (i + 1) = y) := ⟨_, hid rfl⟩
                rw [HY.out] at hcn
                have hne1 : ((i : Int) == (xs.length : Int) - 1) = false := by rw [beq_eq_false_iff_ne]; omega
                by_cases hy : wrap64 (x + 1) = y
                · have hyb : (wrap64 (x + 1) == y) = true := by rw [hy]; simp
                  have HCL := hid (show ¬ Closes xs i by rw [closes_iff, opens_succ, HX.out, HY.out, inc_eq]; rintro (h | h); omega; exact h hy)
                  clear hy
                  have HPC := hid (show fm xs (i + 1) = fm xs i ++ it x by rw [fm, pc_open HOP.out, HX.out]; unfold sep; rw [if_neg (by omega)]; simp)
                  go_wp2_with fail
                  refine (appInt_any x HXI.out w3.heap.size v _ wr HOW.out HBR.out.size (by have := HLI.out; omega)).mono ?_
                  rintro e w6 ⟨v6, rfl, hown6, hb6⟩
                  have HO6 := hid (show w6.ownsRow w3.heap.size 5 1 v6 (fm xs (i + 1)).length (Lib.byteCells (fm xs (i + 1))) by rw [HPC.out]; exact hown6)
                  have HB6 := hid (HBR.out.trans hb6)
                  clear hown6 hb6
                  go_wp2_with fail
                  go_roundw
                  case rel => exact ⟨i + 1, v6, by omega, by go_num, rfl, HO6.out, HB6.out⟩
                  case measure => simp [intOf]; omega
                · have hyb : (wrap64 (x + 1) == y) = false := by rw [beq_eq_false_iff_ne]; exact hy
                  have HCL := hid (show Closes xs i by rw [closes_iff, opens_succ, HX.out, HY.out, inc_eq]; exact Or.inr hy)
                  clear hy
                  have HPC := hid (show fm xs (i + 1) = fm xs i ++ it x by rw [fm, pc_open HOP.out, HX.out]; unfold sep; rw [if_neg (by omega)]; simp)
                  go_wp2_with fail
                  refine (appInt_any x HXI.out w3.heap.size v _ wr HOW.out HBR.out.size (by have := HLI.out; omega)).mono ?_
                  rintro e w6 ⟨v6, rfl, hown6, hb6⟩
                  have HO6 := hid (show w6.ownsRow w3.heap.size 5 1 v6 (fm xs (i + 1)).length (Lib.byteCells (fm xs (i + 1))) by rw [HPC.out]; exact hown6)
                  have HB6 := hid (HBR.out.trans hb6)
                  clear hown6 hb6
                  go_wp2_with fail
                  go_roundw
                  case rel => exact ⟨i + 1, v6, by omega, by go_num, rfl, HO6.out, HB6.out⟩
                  case measure => simp [intOf]; omega
              · have hne1 : ((i : Int) == (xs.length : Int) - 1) = true := by rw [beq_iff_eq]; omega
                have HCL := hid (show Closes xs i from Or.inl (by omega))
                have HPC := hid (show fm xs (i + 1) = fm xs i ++ it x by rw [fm, pc_open HOP.out, HX.out]; unfold sep; rw [if_neg (by omega)]; simp)
                go_wp2_with fail
                refine (appInt_any x HXI.out w3.heap.size v _ wr HOW.out HBR.out.size (by have := HLI.out; omega)).mono ?_
                rintro e w6 ⟨v6, rfl, hown6, hb6⟩
                have HO6 := hid (show w6.ownsRow w3.heap.size 5 1 v6 (fm xs (i + 1)).length (Lib.byteCells (fm xs (i + 1))) by rw [HPC.out]; exact hown6)
                have HB6 := hid (HBR.out.trans hb6)
                clear hown6 hb6
                go_wp2_with fail
                go_roundw
                case rel => exact ⟨i + 1, v6, by omega, by go_num, rfl, HO6.out, HB6.out⟩
                case measure => simp [intOf]; omega
            · obtain ⟨i', rfl⟩ : ∃ i', i = i' + 1 := ⟨i - 1, by omega⟩
              have hib : (((i' : Int) + 1) == 0) = false := by rw [beq_eq_false_iff_ne]; omega
              obtain ⟨bp, op, hep, hcp⟩ := (HAT.out.keep HBA.out) i' (by omega)
              cases hep
              rw [Nat.zero_add] at hcp
              obtain ⟨z, HZ⟩ : ∃ y, Hid (at' xs i' = y) := ⟨_, hid rfl⟩
              rw [HZ.out] at hcp
              by_cases hz : wrap64 (z + 1) = x
              · have hzb : (wrap64 (z + 1) == x) = true := by rw [hz]; simp
                have HOP := hid (show ¬ Opens xs (i' + 1) by rw [opens_succ, HZ.out, HX.out, inc_eq]; exact fun h => h hz)
                clear hz
                by_cases hlast : i' + 1 + 1 < xs.length
                · obtain ⟨bn, on, hen, hcn⟩ := (HAT.out.keep HBA.out) (i' + 1 + 1) hlast
                  cases hen
                  rw [Nat.zero_add] at hcn
                  obtain ⟨y, HY⟩ : ∃ y, Hid (at' xs (i' + 1 + 1) = y) := ⟨_, hid rfl⟩
                  rw [HY.out] at hcn
                  have hne1 : (((i' : Int) + 1) == (xs.length : Int) - 1) = false := by rw [beq_eq_false_iff_ne]; omega
                  by_cases hy : wrap64 (x + 1) = y
                  · have hyb : (wrap64 (x + 1) == y) = true := by rw [hy]; simp
                    have HCL := hid (show ¬ Closes xs (i' + 1) by rw [closes_iff, opens_succ, HX.out, HY.out, inc_eq]; rintro (h | h); omega; exact h hy)
                    clear hy
                    have HPC := hid (show fm xs (i' + 1 + 1) = fm xs (i' + 1) by rw [fm, pc_mid HOP.out HCL.out]; simp)
                    have HO6 := hid (show wr.ownsRow w3.heap.size 5 1 v (fm xs (i' + 1 + 1)).length (Lib.byteCells (fm xs (i' + 1 + 1))) by rw [HPC.out]; exact HOW.out)
                    go_wp2_with fail
                    go_roundw
                    case rel => exact ⟨i' + 1 + 1, v, by omega, by go_num, rfl, HO6.out, HBR.out⟩
                    case measure => simp [intOf]; omega
                  · have hyb : (wrap64 (x + 1) == y) = false := by rw [beq_eq_false_iff_ne]; exact hy
                    have HCL := hid (show Closes xs (i' + 1) by rw [closes_iff, opens_succ, HX.out, HY.out, inc_eq]; exact Or.inr hy)
                    clear hy
                    have HPC := hid (show fm xs (i' + 1 + 1) = fm xs (i' + 1) ++ [45] ++ it x by rw [fm, pc_close HOP.out HCL.out, HX.out]; simp)
                    go_wp2_with (at_builtin; refine wpList_append_own _ rfl _ _ 26 rfl w3.heap.size 5 i0 (.int .u8 0) 1 1 Tryd.underlying26 hi hz0 hz1 hz2 rfl (by decide) _ _ _ rfl (HOW.out.alloc _) ⟨wr.heap.size, 0, none⟩ 1 1 [.int .u8 45] rfl rfl ?p2 ?q2 ?r2 ?s2 ?t2 ?_)
                    case p2 => exact World.news_of_block (cs := #[.int .u8 45]) (t := 5) (fr := (0, 0)) (heap_alloc_new wr _)
                    case q2 => intro u hu; simp at hu; subst hu; rfl
                    case r2 => unfold maxLen; have := HLI.out; omega
                    case s2 => have := HLI.out; omega
                    case t2 => have := HBR.out.size; simp; omega
                    intro v5 w5 hown5 hgrow5 _
                    have HB5 := hid (HBR.out.trans (((Below.refl w3.heap.size wr).alloc HBR.out.size _).grown hgrow5 (by have := HBR.out.size; simp; omega) (fun k hk => (HOW.out.lt k hk).1)))
                    have HO5 := hid (show w5.ownsRow w3.heap.size 5 1 v5 (fm xs (i' + 1) ++ [45]).length (Lib.byteCells (fm xs (i' + 1) ++ [45])) by rw [List.length_append, Lib.byteCells_append]; exact hown5)
                    have HL5 := hid (show (fm xs (i' + 1) ++ [45]).length ≤ 100000000 by rw [List.length_append]; have := HLI.out; simp only [List.length_cons, List.length_nil]; omega)
                    clear hown5 hgrow5
                    go_wp2_with fail
                    refine (appInt_any x HXI.out w3.heap.size v5 _ w5 HO5.out HB5.out.size HL5.out).mono ?_
                    rintro e w6 ⟨v6, rfl, hown6, hb6⟩
                    have HO6 := hid (show w6.ownsRow w3.heap.size 5 1 v6 (fm xs (i' + 1 + 1)).length (Lib.byteCells (fm xs (i' + 1 + 1))) by rw [HPC.out]; exact hown6)
                    have HB6 := hid (HB5.out.trans hb6)
                    clear hown6 hb6
                    go_wp2_with fail
                    go_roundw
                    case rel => exact ⟨i' + 1 + 1, v6, by omega, by go_num, rfl, HO6.out, HB6.out⟩
                    case measure => simp [intOf]; omega
                · have hne1 : (((i' : Int) + 1) == (xs.length : Int) - 1) = true := by rw [beq_iff_eq]; omega
                  have HCL := hid (show Closes xs (i' + 1) from Or.inl (by omega))
                  have HPC := hid (show fm xs (i' + 1 + 1) = fm xs (i' + 1) ++ [45] ++ it x by rw [fm, pc_close HOP.out HCL.out, HX.out]; simp)
                  go_wp2_with (at_builtin; refine wpList_append_own _ rfl _ _ 26 rfl w3.heap.size 5 i0 (.int .u8 0) 1 1 Tryd.underlying26 hi hz0 hz1 hz2 rfl (by decide) _ _ _ rfl (HOW.out.alloc _) ⟨wr.heap.size, 0, none⟩ 1 1 [.int .u8 45] rfl rfl ?p1 ?q1 ?r1 ?s1 ?t1 ?_)
                  case p1 => exact World.news_of_block (cs := #[.int .u8 45]) (t := 5) (fr := (0, 0)) (heap_alloc_new wr _)
                  case q1 => intro u hu; simp at hu; subst hu; rfl
                  case r1 => unfold maxLen; have := HLI.out; omega
                  case s1 => have := HLI.out; omega
                  case t1 => have := HBR.out.size; simp; omega
                  intro v5 w5 hown5 hgrow5 _
                  have HB5 := hid (HBR.out.trans (((Below.refl w3.heap.size wr).alloc HBR.out.size _).grown hgrow5 (by have := HBR.out.size; simp; omega) (fun k hk => (HOW.out.lt k hk).1)))
                  have HO5 := hid (show w5.ownsRow w3.heap.size 5 1 v5 (fm xs (i' + 1) ++ [45]).length (Lib.byteCells (fm xs (i' + 1) ++ [45])) by rw [List.length_append, Lib.byteCells_append]; exact hown5)
                  have HL5 := hid (show (fm xs (i' + 1) ++ [45]).length ≤ 100000000 by rw [List.length_append]; have := HLI.out; simp only [List.length_cons, List.length_nil]; omega)
                  clear hown5 hgrow5
                  go_wp2_with fail
                  refine (appInt_any x HXI.out w3.heap.size v5 _ w5 HO5.out HB5.out.size HL5.out).mono ?_
                  rintro e w6 ⟨v6, rfl, hown6, hb6⟩
                  have HO6 := hid (show w6.ownsRow w3.heap.size 5 1 v6 (fm xs (i' + 1 + 1)).length (Lib.byteCells (fm xs (i' + 1 + 1))) by rw [HPC.out]; exact hown6)
                  have HB6 := hid (HB5.out.trans hb6)
                  clear hown6 hb6
                  go_wp2_with fail
                  go_roundw
                  case rel => exact ⟨i' + 1 + 1, v6, by omega, by go_num, rfl, HO6.out, HB6.out⟩
                  case measure => simp [intOf]; omega
              · have hzb : (wrap64 (z + 1) == x) = false := by rw [beq_eq_false_iff_ne]; exact hz
                have HOP := hid (show Opens xs (i' + 1) by rw [opens_succ, HZ.out, HX.out, inc_eq]; exact hz)
                clear hz
                by_cases hlast : i' + 1 + 1 < xs.length
                · obtain ⟨bn, on, hen, hcn⟩ := (HAT.out.keep HBA.out) (i' + 1 + 1) hlast
                  cases hen
                  rw [Nat.zero_add] at hcn
                  obtain ⟨y, HY⟩ : ∃ y, Hid (at' xs (i' + 1 + 1) = y) := ⟨_, hid rfl⟩
                  rw [HY.out] at hcn
                  have hne1 : (((i' : Int) + 1) == (xs.length : Int) - 1) = false := by rw [beq_eq_false_iff_ne]; omega
                  by_cases hy : wrap64 (x + 1) = y
                  · have hyb : (wrap64 (x + 1) == y) = true := by rw [hy]; simp
                    have HCL := hid (show ¬ Closes xs (i' + 1) by rw [closes_iff, opens_succ, HX.out, HY.out, inc_eq]; rintro (h | h); omega; exact h hy)
                    clear hy
                    have HPC := hid (show fm xs (i' + 1 + 1) = fm xs (i' + 1) ++ [44] ++ it x by rw [fm, pc_open HOP.out, HX.out]; unfold sep; rw [if_pos (by omega)]; simp)
                    go_wp2_with (at_builtin; refine wpList_append_own _ rfl _ _ 26 rfl w3.heap.size 5 i0 (.int .u8 0) 1 1 Tryd.underlying26 hi hz0 hz1 hz2 rfl (by decide) _ _ _ rfl (HOW.out.alloc _) ⟨wr.heap.size, 0, none⟩ 1 1 [.int .u8 44] rfl rfl ?p5 ?q5 ?r5 ?s5 ?t5 ?_)
                    case p5 => exact World.news_of_block (cs := #[.int .u8 44]) (t := 5) (fr := (0, 0)) (heap_alloc_new wr _)
                    case q5 => intro u hu; simp at hu; subst hu; rfl
                    case r5 => unfold maxLen; have := HLI.out; omega
                    case s5 => have := HLI.out; omega
                    case t5 => have := HBR.out.size; simp; omega
                    intro v5 w5 hown5 hgrow5 _
                    have HB5 := hid (HBR.out.trans (((Below.refl w3.heap.size wr).alloc HBR.out.size _).grown hgrow5 (by have := HBR.out.size; simp; omega) (fun k hk => (HOW.out.lt k hk).1)))
                    have HO5 := hid (show w5.ownsRow w3.heap.size 5 1 v5 (fm xs (i' + 1) ++ [44]).length (Lib.byteCells (fm xs (i' + 1) ++ [44])) by rw [List.length_append, Lib.byteCells_append]; exact hown5)
                    have HL5 := hid (show (fm xs (i' + 1) ++ [44]).length ≤ 100000000 by rw [List.length_append]; have := HLI.out; simp only [List.length_cons, List.length_nil]; omega)
                    clear hown5 hgrow5
                    go_wp2_with fail
                    refine (appInt_any x HXI.out w3.heap.size v5 _ w5 HO5.out HB5.out.size HL5.out).mono ?_
                    rintro e w6 ⟨v6, rfl, hown6, hb6⟩
                    have HO6 := hid (show w6.ownsRow w3.heap.size 5 1 v6 (fm xs (i' + 1 + 1)).length (Lib.byteCells (fm xs (i' + 1 + 1))) by rw [HPC.out]; exact hown6)
                    have HB6 := hid (HB5.out.trans hb6)
                    clear hown6 hb6
                    go_wp2_with fail
                    go_roundw
                    case rel => exact ⟨i' + 1 + 1, v6, by omega, by go_num, rfl, HO6.out, HB6.out⟩
                    case measure => simp [intOf]; omega
                  · have hyb : (wrap64 (x + 1) == y) = false := by rw [beq_eq_false_iff_ne]; exact hy
                    have HCL := hid (show Closes xs (i' + 1) by rw [closes_iff, opens_succ, HX.out, HY.out, inc_eq]; exact Or.inr hy)
                    clear hy
                    have HPC := hid (show fm xs (i' + 1 + 1) = fm xs (i' + 1) ++ [44] ++ it x by rw [fm, pc_open HOP.out, HX.out]; unfold sep; rw [if_pos (by omega)]; simp)
                    go_wp2_with (at_builtin; refine wpList_append_own _ rfl _ _ 26 rfl w3.heap.size 5 i0 (.int .u8 0) 1 1 Tryd.underlying26 hi hz0 hz1 hz2 rfl (by decide) _ _ _ rfl (HOW.out.alloc _) ⟨wr.heap.size, 0, none⟩ 1 1 [.int .u8 44] rfl rfl ?p4 ?q4 ?r4 ?s4 ?t4 ?_)
                    case p4 => exact World.news_of_block (cs := #[.int .u8 44]) (t := 5) (fr := (0, 0)) (heap_alloc_new wr _)
                    case q4 => intro u hu; simp at hu; subst hu; rfl
                    case r4 => unfold maxLen; have := HLI.out; omega
                    case s4 => have := HLI.out; omega
                    case t4 => have := HBR.out.size; simp; omega
                    intro v5 w5 hown5 hgrow5 _
                    have HB5 := hid (HBR.out.trans (((Below.refl w3.heap.size wr).alloc HBR.out.size _).grown hgrow5 (by have := HBR.out.size; simp; omega) (fun k hk => (HOW.out.lt k hk).1)))
                    have HO5 := hid (show w5.ownsRow w3.heap.size 5 1 v5 (fm xs (i' + 1) ++ [44]).length (Lib.byteCells (fm xs (i' + 1) ++ [44])) by rw [List.length_append, Lib.byteCells_append]; exact hown5)
                    have HL5 := hid (show (fm xs (i' + 1) ++ [44]).length ≤ 100000000 by rw [List.length_append]; have := HLI.out; simp only [List.length_cons, List.length_nil]; omega)
                    clear hown5 hgrow5
                    go_wp2_with fail
                    refine (appInt_any x HXI.out w3.heap.size v5 _ w5 HO5.out HB5.out.size HL5.out).mono ?_
                    rintro e w6 ⟨v6, rfl, hown6, hb6⟩
                    have HO6 := hid (show w6.ownsRow w3.heap.size 5 1 v6 (fm xs (i' + 1 + 1)).length (Lib.byteCells (fm xs (i' + 1 + 1))) by rw [HPC.out]; exact hown6)
                    have HB6 := hid (HB5.out.trans hb6)
                    clear hown6 hb6
                    go_wp2_with fail
                    go_roundw
                    case rel => exact ⟨i' + 1 + 1, v6, by omega, by go_num, rfl, HO6.out, HB6.out⟩
                    case measure => simp [intOf]; omega
                · have hne1 : (((i' : Int) + 1) == (xs.length : Int) - 1) = true := by rw [beq_iff_eq]; omega
                  have HCL := hid (show Closes xs (i' + 1) from Or.inl (by omega))
                  have HPC := hid (show fm xs (i' + 1 + 1) = fm xs (i' + 1) ++ [44] ++ it x by rw [fm, pc_open HOP.out, HX.out]; unfold sep; rw [if_pos (by omega)]; simp)
                  go_wp2_with (at_builtin; refine wpList_append_own _ rfl _ _ 26 rfl w3.heap.size 5 i0 (.int .u8 0) 1 1 Tryd.underlying26 hi hz0 hz1 hz2 rfl (by decide) _ _ _ rfl (HOW.out.alloc _) ⟨wr.heap.size, 0, none⟩ 1 1 [.int .u8 44] rfl rfl ?p3 ?q3 ?r3 ?s3 ?t3 ?_)
                  case p3 => exact World.news_of_block (cs := #[.int .u8 44]) (t := 5) (fr := (0, 0)) (heap_alloc_new wr _)
                  case q3 => intro u hu; simp at hu; subst hu; rfl
                  case r3 => unfold maxLen; have := HLI.out; omega
                  case s3 => have := HLI.out; omega
                  case t3 => have := HBR.out.size; simp; omega
                  intro v5 w5 hown5 hgrow5 _
                  have HB5 := hid (HBR.out.trans (((Below.refl w3.heap.size wr).alloc HBR.out.size _).grown hgrow5 (by have := HBR.out.size; simp; omega) (fun k hk => (HOW.out.lt k hk).1)))
                  have HO5 := hid (show w5.ownsRow w3.heap.size 5 1 v5 (fm xs (i' + 1) ++ [44]).length (Lib.byteCells (fm xs (i' + 1) ++ [44])) by rw [List.length_append, Lib.byteCells_append]; exact hown5)
                  have HL5 := hid (show (fm xs (i' + 1) ++ [44]).length ≤ 100000000 by rw [List.length_append]; have := HLI.out; simp only [List.length_cons, List.length_nil]; omega)
                  clear hown5 hgrow5
                  go_wp2_with fail
                  refine (appInt_any x HXI.out w3.heap.size v5 _ w5 HO5.out HB5.out.size HL5.out).mono ?_
                  rintro e w6 ⟨v6, rfl, hown6, hb6⟩
                  have HO6 := hid (show w6.ownsRow w3.heap.size 5 1 v6 (fm xs (i' + 1 + 1)).length (Lib.byteCells (fm xs (i' + 1 + 1))) by rw [HPC.out]; exact hown6)
                  have HB6 := hid (HB5.out.trans hb6)
                  clear hown6 hb6
                  go_wp2_with fail
                  go_roundw
                  case rel => exact ⟨i' + 1 + 1, v6, by omega, by go_num, rfl, HO6.out, HB6.out⟩
                  case measure => simp [intOf]; omega
          · obtain rfl : i = xs.length := by omega
            have hcv := owns_conv HOW.out
            go_wp2_with fail
            go_ret
            exact ⟨by simp, HBW.out⟩
    · go_enter Tryd.func3, Tryd.ntmps3
      go_wp2_with fail
      refine (bytesA_any _ _ _ (Nat.le_trans hl hm) _).mono ?_
      rintro e wq ⟨⟨b, rfl⟩, rfl⟩
      cases b with
      | false =>
        go_wp2_with fail
        go_ret
        exact ⟨rfl, Below.refl _ _⟩
      | true =>
        go_wp2_with fail
        go_ret
        exact ⟨rfl, Below.refl _ _⟩
end Go.Proofs.Qxb6630591aDoor
