import Derived.Test.Qxb6629213aDoorW1
import Derived.Lib.ItoaNum
import Derived.Laws.BytesArg
import Derived.Lib.ItoaMem
import Derived.Lib.ItoaLen
namespace Go.Proofs.Qxb6629213aDoor
open Go.RowKit
set_option linter.unusedVariables false
set_option linter.unusedSimpArgs false

/-- The numeral's bytes as integers. -/
def dInts (u : Nat) : List Int := (Lib.decDigits u).map fun b => (b.toNat : Int)
theorem dInts_small {u : Nat} (h : u < 10) : dInts u = [(48 + u : Int)] := by
  unfold dInts
  rw [Lib.decDigits, dif_pos h]
  simp
  omega
theorem dInts_big {u : Nat} (h : ¬ u < 10) : dInts u = dInts (u / 10) ++ [(48 + u % 10 : Int)] := by
  unfold dInts
  rw [Lib.decDigits, dif_neg h]
  simp
  omega
/-- What is still to be written, ahead of tl. -/
def dAhead (v : Nat) (tl : List Int) : List Int := if v = 0 then tl else dInts v ++ tl
theorem dAhead_step {v : Nat} {tl : List Int} (h : 0 < v) : dAhead v tl = dAhead (v / 10) ((48 + v % 10 : Int) :: tl) := by
  unfold dAhead
  rw [if_neg (by omega)]
  by_cases h10 : v < 10
  · rw [if_pos (by omega), dInts_small h10]
    simp
    omega
  · rw [if_neg (by omega), dInts_big h10]
    simp
theorem strOf_dInts (u : Nat) : strOfNums (dInts u) = ⟨(Lib.decDigits u).toArray⟩ := by
  unfold strOfNums dInts
  congr 2
  rw [List.map_map]
  conv => rhs; rw [← List.map_id (Lib.decDigits u)]
  refine List.map_congr_left fun b _ => ?_
  simp
theorem strOf_neg (u : Nat) : strOfNums (45 :: dInts u) = ⟨(45 :: Lib.decDigits u).toArray⟩ := by
  have := strOf_dInts u
  unfold strOfNums at *
  simp at this ⊢
  exact this

theorem itoa_zero : Lib.itoa 0 = [48] := by
  unfold Lib.itoa
  rw [if_neg (by omega), Lib.decDigits, dif_pos (by decide)]
  rfl

set_option maxHeartbeats 1000000 in
theorem zzitoa_zero (w : World) : Calls Tryd.prog 22 #[.int .i64 0] w fun e w' => e = .returned (.string ⟨(Lib.itoa 0).toArray⟩) ∧ Below w.heap.size w w' := by
  go_enter Tryd.func22, Tryd.ntmps22
  go_wp2_with fail
  go_ret
  exact ⟨by rw [itoa_zero]; rfl, Below.refl _ _⟩

/-- The row of 24 bytes: from j on it holds tl. -/
def BufAt (w wr : World) (j : Nat) (tl : List Int) : Prop :=
  (∃ cur : Array Value, wr.heap[w.heap.size]? = some (.cells cur 62 (0, 0)) ∧ cur.size = 24 ∧ ∀ t z, tl[t]? = some z → cur[j + t]? = some (.int .u8 z)) ∧ Below w.heap.size w wr

theorem BufAt.put {w wr : World} {j : Nat} {tl : List Int} (z : Int) (h : BufAt w wr (j + 1) tl) (hj : j < 24) : BufAt w (wr.setCell ⟨w.heap.size, j, none⟩ (.int .u8 z)) j (z :: tl) := by
  obtain ⟨⟨cur, hcur, hcs, hct⟩, hbl⟩ := h
  refine ⟨⟨cur.setIfInBounds j (.int .u8 z), row_store _ hcur, by simp [hcs], ?_⟩, hbl.setCell (p := ⟨w.heap.size, j, none⟩) (Nat.le_refl _) _⟩
  intro t y hy
  cases t with
  | zero =>
    simp at hy
    subst hy
    simp [Array.getElem?_setIfInBounds, hcs, hj]
  | succ t =>
    rw [Array.getElem?_setIfInBounds, if_neg (by omega), show j + (t + 1) = j + 1 + t by omega]
    exact hct t y (by simpa using hy)
theorem BufAt.conv {w wr : World} {j : Nat} {tl : List Int} (h : BufAt w wr j tl) (hl : j + tl.length = 24) :
    (convert 63 9 (.slice (some ⟨w.heap.size, j, none⟩) (24 - j) (24 - j))).run Tryd.prog wr = .ok (.string (strOfNums tl)) wr := by
  obtain ⟨⟨cur, hcur, hcs, hct⟩, hbl⟩ := h
  refine run_convert_bytes_arg wr 63 5 Tryd.underlying63 Tryd.underlying5 w.heap.size j (24 - j) (24 - j) tl (by omega) ?_ 9 Tryd.underlying9
  intro i hi
  rw [cell_of_row _ _ _ _ _ _ hcur]
  have : tl[i]? = some (tl.getD i 0) := by rw [List.getD_eq_getElem?_getD, List.getElem?_eq_getElem (by omega)]; rfl
  exact hct i _ this

theorem len62 : Tryd.prog.arrayLen 62 = 24 := by kernel_rfl
theorem slice_buf (w : World) (b j : Nat) (hj : j < 24) :
    (Instr.sliceAt 62 (.pointer (some ⟨b, 0, none⟩)) (some (.int .i64 (j : Int))) none none).run Tryd.prog w = .ok (.slice (some ⟨b, j, none⟩) (24 - j) (24 - j)) w := by
  rw [run_sliceAt_array_l (P := Tryd.prog) w 62 ⟨b, 0, none⟩ (by kernel_rfl) .i64 (j : Int) (by omega) (by rw [len62]; omega)]
  have he : Tryd.prog.elem 62 = 5 := by kernel_rfl
  rw [he, len62]
  simp only [go_sem, Tryd.sizeOf5, slicedAt, sliced, Int.toNat_natCast]
  show Result.ok (Value.slice (some (if 24 = j then _ else _)) _ _) w = _
  rw [if_neg (by omega)]
  simp
theorem dInts_ne (u : Nat) : dInts u ≠ [] := by
  unfold dInts
  rw [Lib.decDigits]
  split <;> simp

theorem ret_str {a b : ByteArray} (h : a = b) : Ending.returned (.string a) = .returned (.string b) := by rw [h]
theorem pow_step {v j : Nat} (h : v < 10 ^ (j + 1 - 4)) (hj : 4 ≤ j) : v / 10 < 10 ^ (j - 4) := by
  rw [show j + 1 - 4 = (j - 4) + 1 by omega, Nat.pow_succ] at h
  omega

set_option maxHeartbeats 1000000 in
theorem zzitoa_pos (x : Int) (hx0 : 0 < x) (hx : x ≤ 9223372036854775807) (w : World) : Calls Tryd.prog 22 #[.int .i64 x] w fun e w' => e = .returned (.string ⟨(Lib.itoa x).toArray⟩) ∧ Below w.heap.size w w' := by
  have h0 : (x == 0) = false := by rw [beq_eq_false_iff_ne]; omega
  have h1 : ¬ x < 0 := by omega
  go_enter Tryd.func22, Tryd.ntmps22
  go_wp2_with fail
  go_loopw [4, 6] (fun u i wr => ∃ (v j : Nat) (tl : List Int), u = .int .u64 v ∧ i = .int .i64 j ∧ 4 ≤ j ∧ j + tl.length = 24 ∧ v < 10 ^ (j - 4) ∧ v ≤ 9223372036854775807 ∧ dAhead v tl = dInts x.toNat ∧ BufAt w wr j tl)
    (fun u _ _ => (intOf u).toNat)
  case atStart => exact ⟨x.toNat, 24, [], by go_num, rfl, by omega, rfl, by omega, by omega, by unfold dAhead; rw [if_neg (by omega)]; simp, ⟨_, heap_alloc_new w _, rfl, fun t z h => by simp at h⟩, (Below.refl _ _).alloc (Nat.le_refl _) _⟩
  case round =>
    obtain ⟨v, j, tl, rfl, rfl, hj4, hjl, hv10, hv, hd, hbuf⟩ := hrel
    have HB := hid hbuf
    obtain ⟨⟨cur, hcur, hcs, hct⟩, hbl⟩ := hbuf
    have HD := hid hd
    have H10 := hid hv10
    clear hd hv10 hct
    by_cases hv0 : 0 < v
    · obtain ⟨j', rfl⟩ : ∃ j', j = j' + 1 := ⟨j - 1, by omega⟩
      have hj5 : 4 ≤ j' := by
        rcases Nat.lt_or_ge j' 4 with h | h
        · have := H10.out; rw [show j' + 1 - 4 = 0 by omega] at this; omega
        · exact h
      obtain ⟨v0, hv0'⟩ := row_cell (o := j') hcur (by omega)
      have hfr := fun o => frozen_of_row wr _ o _ _ hcur
      go_wp2_with fail
      go_roundw
      case rel => exact ⟨v / 10, j', (48 + v % 10 : Int) :: tl, by go_num, rfl, hj5, by simp; omega, pow_step H10.out hj5, by omega, by rw [← dAhead_step hv0]; exact HD.out, HB.out.put _ (by omega)⟩
      case measure => simp [intOf]; omega
    · have hz : v = 0 := by omega
      subst hz
      have hcv := HB.out.conv hjl
      have htl : tl = dInts x.toNat := by have := HD.out; unfold dAhead at this; rwa [if_pos rfl] at this
      have hj24 : j < 24 := by
        have := dInts_ne x.toNat
        rw [← htl] at this
        have := List.length_pos_iff.2 this
        omega
      have HT := hid htl
      clear htl
      have hsl := slice_buf wr w.heap.size j hj24
      go_wp2_with fail
      go_ret
      refine ⟨ret_str ?_, hbl⟩
      rw [HT.out, strOf_dInts, Lib.itoa, if_neg (by omega)]
set_option maxHeartbeats 1000000 in
theorem zzitoa_neg (x : Int) (hx0 : x < 0) (hx : -9223372036854775808 ≤ x) (w : World) : Calls Tryd.prog 22 #[.int .i64 x] w fun e w' => e = .returned (.string ⟨(Lib.itoa x).toArray⟩) ∧ Below w.heap.size w w' := by
  have h0 : (x == 0) = false := by rw [beq_eq_false_iff_ne]; omega
  go_enter Tryd.func22, Tryd.ntmps22
  go_wp2_with fail
  go_loopw [4, 6] (fun u i wr => ∃ (v j : Nat) (tl : List Int), u = .int .u64 v ∧ i = .int .i64 j ∧ 4 ≤ j ∧ j + tl.length = 24 ∧ v < 10 ^ (j - 4) ∧ v ≤ 9223372036854775808 ∧ dAhead v tl = dInts x.natAbs ∧ BufAt w wr j tl)
    (fun u _ _ => (intOf u).toNat)
  case atStart => exact ⟨x.natAbs, 24, [], by go_num, rfl, by omega, rfl, by omega, by omega, by unfold dAhead; rw [if_neg (by omega)]; simp, ⟨_, heap_alloc_new w _, rfl, fun t z h => by simp at h⟩, (Below.refl _ _).alloc (Nat.le_refl _) _⟩
  case round =>
    obtain ⟨v, j, tl, rfl, rfl, hj4, hjl, hv10, hv, hd, hbuf⟩ := hrel
    have HB := hid hbuf
    obtain ⟨⟨cur, hcur, hcs, hct⟩, hbl⟩ := hbuf
    have HD := hid hd
    have H10 := hid hv10
    clear hd hv10 hct
    by_cases hv0 : 0 < v
    · obtain ⟨j', rfl⟩ : ∃ j', j = j' + 1 := ⟨j - 1, by omega⟩
      have hj5 : 4 ≤ j' := by
        rcases Nat.lt_or_ge j' 4 with h | h
        · have := H10.out; rw [show j' + 1 - 4 = 0 by omega] at this; omega
        · exact h
      obtain ⟨v0, hv0'⟩ := row_cell (o := j') hcur (by omega)
      have hfr := fun o => frozen_of_row wr _ o _ _ hcur
      go_wp2_with fail
      go_roundw
      case rel => exact ⟨v / 10, j', (48 + v % 10 : Int) :: tl, by go_num, rfl, hj5, by simp; omega, pow_step H10.out hj5, by omega, by rw [← dAhead_step hv0]; exact HD.out, HB.out.put _ (by omega)⟩
      case measure => simp [intOf]; omega
    · have hz : v = 0 := by omega
      subst hz
      have htl : tl = dInts x.natAbs := by have := HD.out; unfold dAhead at this; rwa [if_pos rfl] at this
      have hj24 : j < 24 := by
        have := dInts_ne x.natAbs
        rw [← htl] at this
        have := List.length_pos_iff.2 this
        omega
      have HT := hid htl
      clear htl
      obtain ⟨j', rfl⟩ : ∃ j', j = j' + 1 := ⟨j - 1, by omega⟩
      obtain ⟨v0, hv0'⟩ := row_cell (o := j') hcur (by omega)
      have hfr := fun o => frozen_of_row wr _ o _ _ hcur
      have hb2 := HB.out.put 45 (by omega)
      have hcv := hb2.conv (by simp; omega)
      have HB2 := hid hb2.2
      clear hb2
      have hsl := slice_buf (wr.setCell ⟨w.heap.size, j', none⟩ (.int .u8 45)) w.heap.size j' (by omega)
      go_wp2_with fail
      go_ret
      refine ⟨ret_str ?_, HB2.out⟩
      rw [HT.out, strOf_neg, Lib.itoa, if_pos hx0]

theorem zzitoa_any (x : Int) (h0 : -9223372036854775808 ≤ x) (h1 : x ≤ 9223372036854775807) (w : World) : Calls Tryd.prog 22 #[.int .i64 x] w fun e w' => e = .returned (.string ⟨(Lib.itoa x).toArray⟩) ∧ Below w.heap.size w w' := by
  rcases Int.lt_trichotomy x 0 with h | h | h
  · exact zzitoa_neg x h h0 w
  · subst h; exact zzitoa_zero w
  · exact zzitoa_pos x h h1 w

/-- CLUSTER/INDEX. -/
def nameOf (n : ByteArray) (i : Int) : ByteArray := (n ++ ⟨#[47]⟩) ++ ⟨(Lib.itoa i).toArray⟩

set_option maxHeartbeats 1000000 in
theorem zzname_any (n : ByteArray) (x : Int) (hn : n.size ≤ 1048576) (h0 : -9223372036854775808 ≤ x) (h1 : x ≤ 9223372036854775807) (w : World) : Calls Tryd.prog 15 #[.string n, .int .i64 x] w fun e w' => e = .returned (.string (nameOf n x)) ∧ Below w.heap.size w w' := by
  have hl := Lib.itoa_length_le x h0 h1
  have key : ∀ t : ByteArray, t.size ≤ 21 → (∀ w, Calls Tryd.prog 22 #[.int .i64 x] w fun e w' => e = .returned (.string t) ∧ Below w.heap.size w w') →
      Calls Tryd.prog 15 #[.string n, .int .i64 x] w fun e w' => e = .returned (.string ((n ++ ⟨#[47]⟩) ++ t)) ∧ Below w.heap.size w w' := by
    intro t ht hz
    have HZ := hid hz
    clear hz
    go_enter Tryd.func15, Tryd.ntmps15
    go_wp2_with fail
    refine (HZ.out w).mono ?_
    rintro e w2 ⟨rfl, hb⟩
    have hs : (n ++ (⟨#[47]⟩ : ByteArray)).size = n.size + 1 := by simp [ByteArray.size_append]; rfl
    have hs2 : (n ++ (⟨#[47]⟩ : ByteArray)).size + t.size ≤ 9223372036854775807 := by omega
    go_wp2_with fail
    go_ret
    exact ⟨rfl, hb⟩
  exact key _ (by show (Lib.itoa x).toArray.size ≤ 21; simpa using hl) (fun w => zzitoa_any x h0 h1 w)
end Go.Proofs.Qxb6629213aDoor
