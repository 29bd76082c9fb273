import Derived.Test.Qxb6630591aDoorFmt
import Derived.Laws.BytesArg
namespace Go.Proofs.Qxb6630591aDoor
open Go.RowKit
set_option linter.unusedVariables false
set_option linter.unusedSimpArgs false

/-- The numeral's bytes as integers. -/
def dInts (u : Nat) : List Int := (Lib.decDigits u).map fun b => (b.toNat : Int)
theorem dInts_small {u : Nat} (h : u < 10) : dInts u = [(48 + u % 10 : Int)] := by
  unfold dInts
  rw [Lib.decDigits, dif_pos h]
  simp
  omega
theorem dInts_big {u : Nat} (h : ¬ u < 10) : dInts u = dInts (u / 10) ++ [(48 + u % 10 : Int)] := by
  unfold dInts
  rw [Lib.decDigits, dif_neg h]
  simp
  omega
theorem pow_step {v j : Nat} (h : v < 10 ^ (j + 1)) : v / 10 < 10 ^ j := by
  rw [Nat.pow_succ] at h
  omega
theorem pow_room {v j : Nat} (h : v < 10 ^ (j + 1)) (hv : ¬ v < 10) : 1 ≤ j := by
  rcases Nat.eq_zero_or_pos j with h0 | h0
  · subst h0; simp at h; omega
  · exact h0
theorem dInts_cells (u : Nat) : (dInts u).map (fun z => Value.int .u8 z) = Lib.byteCells (Lib.decDigits u) := by
  unfold dInts Lib.byteCells
  rw [List.map_map]
  rfl

/-- The row of 20 bytes: from j on it holds tl. -/
def BufAt (w wr : World) (j : Nat) (tl : List Int) : Prop :=
  (∃ cur : Array Value, wr.heap[w.heap.size]? = some (.cells cur 42 (0, 0)) ∧ cur.size = 20 ∧ ∀ t z, tl[t]? = some z → cur[j + t]? = some (.int .u8 z)) ∧ Below w.heap.size w wr
theorem BufAt.put {w wr : World} {j : Nat} {tl : List Int} (z : Int) (h : BufAt w wr (j + 1) tl) (hj : j < 20) : BufAt w (wr.setCell ⟨w.heap.size, j, none⟩ (.int .u8 z)) j (z :: tl) := by
  obtain ⟨⟨cur, hcur, hcs, hct⟩, hbl⟩ := h
  refine ⟨⟨cur.setIfInBounds j (.int .u8 z), heap_setCell_same wr _ j cur 42 _ hcur, by simp [hcs], ?_⟩, hbl.setCell (p := ⟨w.heap.size, j, none⟩) (Nat.le_refl _) _⟩
  intro t y hy
  cases t with
  | zero =>
    simp at hy
    subst hy
    simp [Array.getElem?_setIfInBounds, hcs, hj]
  | succ t =>
    rw [Array.getElem?_setIfInBounds, if_neg (by omega), show j + (t + 1) = j + 1 + t by omega]
    exact hct t y (by simpa using hy)
theorem BufAt.there {w wr : World} {j o : Nat} {tl : List Int} (h : BufAt w wr j tl) (ho : o < 20) : ∃ v, wr.cell? ⟨w.heap.size, o, none⟩ = some v := by
  obtain ⟨⟨cur, h1, h2, h3⟩, hb⟩ := h
  exact ⟨cur[o], by rw [cell_of_row _ _ _ _ _ _ h1]; exact Array.getElem?_eq_getElem (by omega)⟩
theorem BufAt.frozen {w wr : World} {j : Nat} {tl : List Int} (h : BufAt w wr j tl) : ∀ o, wr.frozen? ⟨w.heap.size, o, none⟩ = false := by
  obtain ⟨⟨cur, h1, h2, h3⟩, hb⟩ := h
  exact fun o => frozen_of_row wr _ o _ _ h1
theorem BufAt.news {w wr : World} {j : Nat} {tl : List Int} (h : BufAt w wr j tl) : ∀ t u, (tl.map fun z => Value.int .u8 z)[t]? = some u → wr.cell? ((⟨w.heap.size, j, none⟩ : Addr).add t) = some u := by
  intro t u hu
  obtain ⟨⟨cur, h1, h2, h3⟩, hb⟩ := h
  rw [List.getElem?_map] at hu
  obtain ⟨z, hz, rfl⟩ := Option.map_eq_some_iff.1 hu
  rw [Addr.add_lit, cell_of_row _ _ _ _ _ _ h1]
  exact h3 t z hz
theorem len42 : Tryd.prog.arrayLen 42 = 20 := by kernel_rfl
theorem slice_buf (w : World) (b j : Nat) (hj : j < 20) :
    (Instr.sliceAt 42 (.pointer (some ⟨b, 0, none⟩)) (some (.int .i64 (j : Int))) none none).run Tryd.prog w = .ok (.slice (some ⟨b, j, none⟩) (20 - j) (20 - j)) w := by
  rw [run_sliceAt_array_l (P := Tryd.prog) w 42 ⟨b, 0, none⟩ (by kernel_rfl) .i64 (j : Int) (by omega) (by rw [len42]; omega)]
  have he : Tryd.prog.elem 42 = 5 := by kernel_rfl
  rw [he, len42]
  simp only [go_sem, Tryd.sizeOf5, slicedAt, sliced, Int.toNat_natCast]
  show Result.ok (Value.slice (some (if 20 = j then _ else _)) _ _) w = _
  rw [if_neg (by omega)]
  simp

set_option maxHeartbeats 2000000 in
theorem appInt_neg (x : Int) (hx0 : x < 0) (hx : InI x) (base : Nat) (v : Value) (l : List UInt8) (w : World) (hown : w.ownsRow base 5 1 v l.length (Lib.byteCells l)) (hbase : base ≤ w.heap.size) (hlen : l.length ≤ 100000000) :
    Calls Tryd.prog 8 #[v, .int .i64 x] w fun e w' => ∃ v', e = .returned v' ∧ w'.ownsRow base 5 1 v' (l ++ it x).length (Lib.byteCells (l ++ it x)) ∧ Below base w w' := by
  obtain ⟨hx1, hx2⟩ := hx
  obtain ⟨i0, hi, hz0, hz1, hz2⟩ := info_parts info5
  have HOW := hid hown
  have HIT := hid (show it x = 45 :: Lib.decDigits x.natAbs by unfold it Lib.itoa; rw [if_pos hx0])
  clear hown
  go_enter Tryd.func8, Tryd.ntmps8
  go_wp2_with (at_builtin; refine wpList_append_own _ rfl _ _ 26 rfl base 5 i0 (.int .u8 0) 1 1 Tryd.underlying26 hi hz0 hz1 hz2 rfl (by decide) _ _ _ rfl (HOW.out.alloc _) ⟨w.heap.size, 0, none⟩ 1 1 [.int .u8 45] rfl rfl ?c1 ?c2 ?c3 ?c4 ?c5 ?_)
  case c1 => exact World.news_of_block (cs := #[.int .u8 45]) (t := 5) (fr := (0, 0)) (heap_alloc_new w _)
  case c2 => intro u hu; simp at hu; subst hu; rfl
  case c3 => unfold maxLen; omega
  case c4 => omega
  case c5 => simp; omega
  intro v2 w2 hown2 hgrow2 _
  have HB2 := hid (((Below.refl base w).alloc hbase _).grown hgrow2 (by simp; omega) (fun k hk => (HOW.out.lt k hk).1))
  have HO2 := hid (show w2.ownsRow base 5 1 v2 (l ++ [45]).length (Lib.byteCells (l ++ [45])) by rw [List.length_append, Lib.byteCells_append]; exact hown2)
  have HL2 := hid (show (l ++ [45]).length ≤ 100000001 by simp; omega)
  have HFIN := hid (show Lib.byteCells (l ++ [45]) ++ Lib.byteCells (Lib.decDigits x.natAbs) = Lib.byteCells (l ++ it x) by rw [← Lib.byteCells_append, HIT.out]; simp)
  obtain ⟨l2, HE2⟩ : ∃ y, Hid (y = l ++ [45]) := ⟨_, hid rfl⟩
  rw [← HE2.out] at HO2 HL2 HFIN
  clear hown2 hgrow2
  go_wp2_with fail
  go_loopw [5, 7] (fun u i wr => ∃ (q j : Nat) (tl : List Int), u = .int .u64 q ∧ i = .int .i64 j ∧ 1 ≤ j ∧ j + tl.length = 20 ∧ q < 10 ^ j ∧ q ≤ 9223372036854775808 ∧ dInts q ++ tl = dInts x.natAbs ∧ BufAt w2 wr j tl)
    (fun u _ _ => (intOf u).toNat)
  case atStart => exact ⟨x.natAbs, 20, [], by go_num, rfl, by omega, rfl, by omega, by omega, by simp, ⟨_, heap_alloc_new w2 _, rfl, fun t z h => by simp at h⟩, (Below.refl _ _).alloc (Nat.le_refl _) _⟩
  case round =>
    obtain ⟨q, j, tl, rfl, rfl, hj1, hjl, hq10, hq, hd, hbuf⟩ := hrel
    obtain ⟨j', rfl⟩ : ∃ j', j = j' + 1 := ⟨j - 1, by omega⟩
    have HB := hid hbuf
    have HD := hid hd
    have H10 := hid hq10
    obtain ⟨v0, hv0⟩ := hbuf.there (o := j') (by omega)
    have hfr := hbuf.frozen
    clear hd hq10 hbuf
    have HP := hid (HB.out.put (48 + q % 10 : Int) (by omega))
    by_cases hq9 : q < 10
    · have HTL := hid (show (48 + q % 10 : Int) :: tl = dInts x.natAbs by rw [← HD.out, dInts_small hq9]; rfl)
      have HOR := hid (owns_keep HO2.out HP.out.2)
      have hsl := fun ww => slice_buf ww w2.heap.size j' (by omega)
      have HNW := hid HP.out.news
      have HLN := hid (show (((48 + q % 10 : Int) :: tl).map fun z => Value.int .u8 z).length = (20 - j') * 1 by simp; omega)
      have HL3 := HL2.out
      have hj20 : j' < 20 := by omega
      have hbs : base ≤ (wr.setCell ⟨w2.heap.size, j', none⟩ (.int .u8 (48 + q % 10 : Int))).heap.size := Nat.le_trans (Nat.le_trans hbase HB2.out.size) HP.out.2.size
      have HBS := hid hbs
      clear hbs
      go_wp2_with (at_builtin; refine wpList_append_own _ rfl _ _ 26 rfl base 5 i0 (.int .u8 0) 1 1 Tryd.underlying26 hi hz0 hz1 hz2 rfl (by decide) _ _ _ rfl HOR.out ⟨w2.heap.size, j', none⟩ (20 - j') (20 - j') _ rfl HLN.out HNW.out ?d2 ?d3 ?d4 HBS.out ?_)
      case d2 => intro u hu; obtain ⟨z, _, rfl⟩ := List.mem_map.1 hu; rfl
      case d3 => unfold maxLen; omega
      case d4 => omega
      intro v5 w5 hown5 hgrow5 _
      have HO5 := hid hown5
      have HG5 := hid hgrow5
      clear hown5 hgrow5
      go_wp2_with fail
      go_ret
      have e1 : ((48 + q % 10 : Int) :: tl).map (fun z => Value.int .u8 z) = Lib.byteCells (Lib.decDigits x.natAbs) := by rw [HTL.out, dInts_cells]
      have e2 : l2.length + (20 - j') = (l ++ it x).length := by
        have h1 := congrArg List.length HFIN.out
        have h2 := congrArg List.length e1
        have h3 := HLN.out
        rw [List.length_append, Lib.byteCells_length, Lib.byteCells_length, Lib.byteCells_length] at h1
        rw [Lib.byteCells_length] at h2
        omega
      have e3 : Value.int .u8 (48 + q % 10 : Int) :: tl.map (fun z => Value.int .u8 z) = Lib.byteCells (Lib.decDigits x.natAbs) := e1
      have h5 := HO5.out
      rw [e3, HFIN.out, e2] at h5
      refine ⟨v5, rfl, h5, (HB2.out.trans (HP.out.2.mono ?_)).grown HG5.out ?_ ?_⟩
      · exact Nat.le_trans hbase HB2.out.size
      · exact HBS.out
      · exact fun k hk => (HO2.out.lt k hk).1
    · have HTL := hid (show dInts (q / 10) ++ ((48 + q % 10 : Int) :: tl) = dInts x.natAbs by rw [← HD.out, dInts_big hq9]; simp)
      go_wp2_with fail
      go_roundw
      case rel => exact ⟨q / 10, j', (48 + q % 10 : Int) :: tl, by go_num, rfl, pow_room H10.out hq9, by simp; omega, pow_step H10.out, by omega, HTL.out, HP.out⟩
      case measure => simp [intOf]; omega

set_option maxHeartbeats 2000000 in
theorem appInt_pos (x : Int) (hx0 : 0 ≤ x) (hx : InI x) (base : Nat) (v : Value) (l : List UInt8) (w : World) (hown : w.ownsRow base 5 1 v l.length (Lib.byteCells l)) (hbase : base ≤ w.heap.size) (hlen : l.length ≤ 100000000) :
    Calls Tryd.prog 8 #[v, .int .i64 x] w fun e w' => ∃ v', e = .returned v' ∧ w'.ownsRow base 5 1 v' (l ++ it x).length (Lib.byteCells (l ++ it x)) ∧ Below base w w' := by
  obtain ⟨hx1, hx2⟩ := hx
  obtain ⟨i0, hi, hz0, hz1, hz2⟩ := info_parts info5
  have HOW := hid hown
  have HIT := hid (show it x = Lib.decDigits x.toNat by unfold it Lib.itoa; rw [if_neg (by omega)])
  have HB2 : Hid (Below base w w) := Below.refl base w
  have HO2 := HOW
  have HL2 := hid (show l.length ≤ 100000001 by omega)
  have hx3 : ¬ x < 0 := by omega
  clear hown
  obtain ⟨l2, HE2⟩ : ∃ y, Hid (y = l) := ⟨_, hid rfl⟩
  rw [← HE2.out] at HO2 HL2
  have HFIN := hid (show Lib.byteCells l2 ++ Lib.byteCells (Lib.decDigits x.toNat) = Lib.byteCells (l ++ it x) by rw [HE2.out, ← Lib.byteCells_append, HIT.out])
  obtain ⟨w2, HW2⟩ : ∃ y, Hid (y = w) := ⟨_, hid rfl⟩
  rw [← HW2.out] at HO2
  have HB2 : Hid (Below base w w2) := by rw [HW2.out]; exact Below.refl base w
  rw [show (Calls Tryd.prog 8 #[v, .int .i64 x] w fun e w' => ∃ v', e = .returned v' ∧ w'.ownsRow base 5 1 v' (l ++ it x).length (Lib.byteCells (l ++ it x)) ∧ Below base w w') = (Calls Tryd.prog 8 #[v, .int .i64 x] w2 fun e w' => ∃ v', e = .returned v' ∧ w'.ownsRow base 5 1 v' (l ++ it x).length (Lib.byteCells (l ++ it x)) ∧ Below base w w') by rw [HW2.out]]
  go_enter Tryd.func8, Tryd.ntmps8
  go_wp2_with fail
  go_loopw [5, 7] (fun u i wr => ∃ (q j : Nat) (tl : List Int), u = .int .u64 q ∧ i = .int .i64 j ∧ 1 ≤ j ∧ j + tl.length = 20 ∧ q < 10 ^ j ∧ q ≤ 9223372036854775808 ∧ dInts q ++ tl = dInts x.toNat ∧ BufAt w2 wr j tl)
    (fun u _ _ => (intOf u).toNat)
  case atStart => exact ⟨x.toNat, 20, [], by go_num, rfl, by omega, rfl, by omega, by omega, by simp, ⟨_, heap_alloc_new w2 _, rfl, fun t z h => by simp at h⟩, (Below.refl _ _).alloc (Nat.le_refl _) _⟩
  case round =>
    obtain ⟨q, j, tl, rfl, rfl, hj1, hjl, hq10, hq, hd, hbuf⟩ := hrel
    obtain ⟨j', rfl⟩ : ∃ j', j = j' + 1 := ⟨j - 1, by omega⟩
    have HB := hid hbuf
    have HD := hid hd
    have H10 := hid hq10
    obtain ⟨v0, hv0⟩ := hbuf.there (o := j') (by omega)
    have hfr := hbuf.frozen
    clear hd hq10 hbuf
    have HP := hid (HB.out.put (48 + q % 10 : Int) (by omega))
    by_cases hq9 : q < 10
    · have HTL := hid (show (48 + q % 10 : Int) :: tl = dInts x.toNat by rw [← HD.out, dInts_small hq9]; rfl)
      have HOR := hid (owns_keep HO2.out HP.out.2)
      have hsl := fun ww => slice_buf ww w2.heap.size j' (by omega)
      have HNW := hid HP.out.news
      have HLN := hid (show (((48 + q % 10 : Int) :: tl).map fun z => Value.int .u8 z).length = (20 - j') * 1 by simp; omega)
      have HL3 := HL2.out
      have hj20 : j' < 20 := by omega
      have hbs : base ≤ (wr.setCell ⟨w2.heap.size, j', none⟩ (.int .u8 (48 + q % 10 : Int))).heap.size := Nat.le_trans (Nat.le_trans hbase HB2.out.size) HP.out.2.size
      have HBS := hid hbs
      clear hbs
      go_wp2_with (at_builtin; refine wpList_append_own _ rfl _ _ 26 rfl base 5 i0 (.int .u8 0) 1 1 Tryd.underlying26 hi hz0 hz1 hz2 rfl (by decide) _ _ _ rfl HOR.out ⟨w2.heap.size, j', none⟩ (20 - j') (20 - j') _ rfl HLN.out HNW.out ?d2 ?d3 ?d4 HBS.out ?_)
      case d2 => intro u hu; obtain ⟨z, _, rfl⟩ := List.mem_map.1 hu; rfl
      case d3 => unfold maxLen; omega
      case d4 => omega
      intro v5 w5 hown5 hgrow5 _
      have HO5 := hid hown5
      have HG5 := hid hgrow5
      clear hown5 hgrow5
      go_wp2_with fail
      go_ret
      have e1 : ((48 + q % 10 : Int) :: tl).map (fun z => Value.int .u8 z) = Lib.byteCells (Lib.decDigits x.toNat) := by rw [HTL.out, dInts_cells]
      have e2 : l2.length + (20 - j') = (l ++ it x).length := by
        have h1 := congrArg List.length HFIN.out
        have h2 := congrArg List.length e1
        have h3 := HLN.out
        rw [List.length_append, Lib.byteCells_length, Lib.byteCells_length, Lib.byteCells_length] at h1
        rw [Lib.byteCells_length] at h2
        omega
      have e3 : Value.int .u8 (48 + q % 10 : Int) :: tl.map (fun z => Value.int .u8 z) = Lib.byteCells (Lib.decDigits x.toNat) := e1
      have h5 := HO5.out
      rw [e3, HFIN.out, e2] at h5
      refine ⟨v5, rfl, h5, (HB2.out.trans (HP.out.2.mono ?_)).grown HG5.out ?_ ?_⟩
      · exact Nat.le_trans hbase HB2.out.size
      · exact HBS.out
      · exact fun k hk => (HO2.out.lt k hk).1
    · have HTL := hid (show dInts (q / 10) ++ ((48 + q % 10 : Int) :: tl) = dInts x.toNat by rw [← HD.out, dInts_big hq9]; simp)
      go_wp2_with fail
      go_roundw
      case rel => exact ⟨q / 10, j', (48 + q % 10 : Int) :: tl, by go_num, rfl, pow_room H10.out hq9, by simp; omega, pow_step H10.out, by omega, HTL.out, HP.out⟩
      case measure => simp [intOf]; omega

theorem appInt_any (x : Int) (hx : InI x) (base : Nat) (v : Value) (l : List UInt8) (w : World) (hown : w.ownsRow base 5 1 v l.length (Lib.byteCells l)) (hbase : base ≤ w.heap.size) (hlen : l.length ≤ 100000000) :
    Calls Tryd.prog 8 #[v, .int .i64 x] w fun e w' => ∃ v', e = .returned v' ∧ w'.ownsRow base 5 1 v' (l ++ it x).length (Lib.byteCells (l ++ it x)) ∧ Below base w w' := by
  by_cases h : x < 0
  · exact appInt_neg x h hx base v l w hown hbase hlen
  · exact appInt_pos x (by omega) hx base v l w hown hbase hlen
end Go.Proofs.Qxb6630591aDoor
