import Derived.Test.Qxb6629277aRows
import Derived.WalkKit
import Derived.WalkSpells
import Derived.WalkLawsBesides
import Derived.KernelRfl
namespace Go.Proofs.Qxb6629277a
open Go.RowKit
set_option linter.unusedVariables false
set_option linter.unusedSimpArgs false

theorem hid {p : Prop} (h : p) : Hid p := h
theorem info5 : (Try.prog.info? 5).map (fun i => (i.zero, i.size, i.bytes)) = some (some (.int .u8 0), 1, 1) := by kernel_rfl

theorem row_of_owns {w : World} {base e size g n : Nat} {xs : List Value} (h : w.ownsRow base e size (.slice (some ⟨g, 0, none⟩) n n) n xs) :
    ∃ cur : Array Value, w.heap[g]? = some (.cells cur e (0, 0)) ∧ cur.size = n * size ∧ n ≤ maxLen := by
  rcases h.2 with ⟨h1, _⟩ | ⟨g', cap, cur, hv, _, hg, _, hm, hs, _⟩
  · cases h1
  · injection hv with h1 h2 h3
    injection h1 with h1
    injection h1 with h1
    subst h1 h3
    exact ⟨cur, hg, hs, hm⟩
theorem row_cell {w : World} {g o e : Nat} {cur : Array Value} (h : w.heap[g]? = some (.cells cur e (0, 0))) (ho : o < cur.size) : ∃ v, w.cell? ⟨g, o, none⟩ = some v :=
  ⟨cur[o], by rw [cell_of_row w g o cur e _ h]; exact Array.getElem?_eq_getElem ho⟩

/-- 'make([]T, n)' as the walks below take it. -/
theorem make_row {P : Program} {ops : Array Oper} {rest : List Oper} {o : Oper} {a : Act} {w : World} {Q : Exit → Act → World → Prop}
    (hg : o.guard = none) (l c : Operand) (t : TypeId) (hop : o.op = Op.makeSlice t l c) (e : TypeId) (z : Value) (size bytes : Nat) (h1 : P.underlying t = some (.slice e))
    (h2 : (P.info? e).map (fun i => (i.zero, i.size, i.bytes)) = some (some z, size, bytes)) (kl kc : IntKind) (L C : Int) (n : Nat) (hl : a.eval l = .int kl L) (hc : a.eval c = .int kc C) (hL : L = (n : Int)) (hC : C = (n : Int))
    (b2 : bytes * n ≤ 281474976710656) (b3 : n ≤ maxLen)
    (hK : ∀ (w' : World) (cur : Array Value), w'.heap[w.heap.size]? = some (.cells cur e (0, 0)) → cur.size = n * size → Below w.heap.size w w' → wpList P ops Q rest (a.put o.dst (.slice (some ⟨w.heap.size, 0, none⟩) n n)) w') :
    wpList P ops Q (o :: rest) a w := by
  obtain ⟨i0, hi, hz0, hz1, hz2⟩ := info_parts h2
  refine wpList_make_full w hg l c t hop w.heap.size e i0 z size h1 hi hz0 hz1 kl kc L C n hl hc hL hC (by rw [hz2]; exact b2) b3 (Nat.le_refl _) ?_
  intro w1 hown hgrow
  obtain ⟨cur, hcur, hcs, _⟩ := row_of_owns hown
  exact hK w1 cur hcur hcs ((Below.refl _ _).grown hgrow (Nat.le_refl _) (fun k h => by cases h))

/-- A digit's half octet; what a first, what a second digit makes of an octet: in the walk's own words. -/
def dg (c : UInt8) : Int := if ((c.toNat : Int) == 102) = true then 15 else ((c.toNat : Int) - 48) % 256
def ev (c : UInt8) : Int := bits BinOp.or IntKind.u8 (bits BinOp.and IntKind.u8 240 240) (dg c)
def od (z : Int) (c : UInt8) : Int := bits BinOp.or IntKind.u8 (z % 16) (dg c * 16 % 256)
theorem dg_f {c : UInt8} (h : ((c.toNat : Int) == 102) = true) : dg c = 15 := by rw [dg, if_pos h]
theorem dg_n {c : UInt8} (h : ((c.toNat : Int) == 102) = false) : dg c = ((c.toNat : Int) - 48) % 256 := by rw [dg, if_neg (by simp [h])]
theorem dg_bd (c : UInt8) : 0 ≤ dg c ∧ dg c ≤ 255 := by unfold dg; split <;> omega

theorem ev_bd (c : UInt8) : 0 ≤ ev c ∧ ev c ≤ 255 := by
  have h : ∀ d : Fin 256, 0 ≤ bits BinOp.or IntKind.u8 (bits BinOp.and IntKind.u8 240 240) (d.val : Int) ∧ bits BinOp.or IntKind.u8 (bits BinOp.and IntKind.u8 240 240) (d.val : Int) ≤ 255 := by decide +kernel
  have hb := dg_bd c
  have := h ⟨(dg c).toNat, by omega⟩
  simp only [Int.toNat_of_nonneg hb.1] at this
  exact this

def chr (s : ByteArray) (i : Nat) : UInt8 := s.data.toList.getD i 0
theorem chr_eq (s : ByteArray) (i : Nat) (h : i < s.size) : s[i] = chr s i := by
  unfold chr
  rw [List.getD_eq_getElem?_getD, List.getElem?_eq_getElem (by simpa using h)]
  rfl

/-- Octet j when k digits are in. -/
def st (s : ByteArray) (k j : Nat) : Int := if 2 * j + 1 < k then od (ev (chr s (2 * j))) (chr s (2 * j + 1)) else if 2 * j < k then ev (chr s (2 * j)) else 240
/-- Octet j of the packed digits. -/
def pk (s : ByteArray) (j : Nat) : Int := st s s.size j

theorem st_zero (s : ByteArray) (j : Nat) : st s 0 j = 240 := by simp [st]
theorem st_even (s : ByteArray) (j i : Nat) : st s (2 * j + 1) i = if i = j then ev (chr s (2 * j)) else st s (2 * j) i := by
  unfold st
  by_cases h : i = j
  · subst h; rw [if_neg (by omega), if_pos (by omega), if_pos rfl]
  · rw [if_neg h]
    by_cases h1 : 2 * i + 1 < 2 * j
    · rw [if_pos (by omega), if_pos h1]
    · rw [if_neg (by omega), if_neg h1, if_neg (by omega), if_neg (by omega)]
theorem st_odd (s : ByteArray) (j i : Nat) : st s (2 * j + 1 + 1) i = if i = j then od (ev (chr s (2 * j))) (chr s (2 * j + 1)) else st s (2 * j + 1) i := by
  unfold st
  by_cases h : i = j
  · subst h; rw [if_pos (by omega), if_pos rfl]
  · rw [if_neg h]
    by_cases h1 : 2 * i + 1 < 2 * j + 1
    · rw [if_pos (by omega), if_pos h1]
    · rw [if_neg (by omega), if_neg h1, if_neg (by omega), if_neg (by omega)]
theorem st_at_even (s : ByteArray) (j : Nat) : st s (2 * j) j = 240 := by unfold st; rw [if_neg (by omega), if_neg (by omega)]
theorem st_at_odd (s : ByteArray) (j : Nat) : st s (2 * j + 1) j = ev (chr s (2 * j)) := by unfold st; rw [if_neg (by omega), if_pos (by omega)]

/-- The row that holds the octets. -/
def Oct (w wr : World) (n : Nat) (f : Nat → Int) : Prop :=
  (∃ cur : Array Value, wr.heap[w.heap.size]? = some (.cells cur 5 (0, 0)) ∧ cur.size = n ∧ ∀ j, j < n → cur[j]? = some (.int .u8 (f j))) ∧ Below w.heap.size w wr
theorem Oct.cell {w wr : World} {n j : Nat} {f : Nat → Int} (h : Oct w wr n f) (hj : j < n) : wr.cell? ⟨w.heap.size, j, none⟩ = some (.int .u8 (f j)) := by
  obtain ⟨⟨cur, h1, h2, h3⟩, _⟩ := h
  rw [cell_of_row _ _ _ _ _ _ h1]
  exact h3 j hj
theorem Oct.frozen {w wr : World} {n : Nat} {f : Nat → Int} (h : Oct w wr n f) : ∀ o, wr.frozen? ⟨w.heap.size, o, none⟩ = false := by
  obtain ⟨⟨cur, h1, h2, h3⟩, _⟩ := h
  exact fun o => frozen_of_row wr _ o _ _ h1
theorem Oct.put {w wr : World} {n j : Nat} {f g : Nat → Int} (z : Int) (h : Oct w wr n f) (hg : ∀ i, i < n → g i = if i = j then z else f i) : Oct w (wr.setCell ⟨w.heap.size, j, none⟩ (.int .u8 z)) n g := by
  obtain ⟨⟨cur, h1, h2, h3⟩, hb⟩ := h
  refine ⟨⟨cur.setIfInBounds j (.int .u8 z), heap_setCell_same wr _ j cur 5 _ h1, by simp [h2], fun i hi => ?_⟩, hb.setCell (p := ⟨w.heap.size, j, none⟩) (Nat.le_refl _) _⟩
  rw [Array.getElem?_setIfInBounds, hg i hi]
  by_cases e : j = i
  · subst e; simp [h2, hi]
  · rw [if_neg e, if_neg (fun h => e h.symm)]; exact h3 i hi

set_option maxHeartbeats 1000000 in
theorem pack_any (s : ByteArray) (hs : s.size ≤ 1048577) (w : World) :
    Calls Try.prog 6 #[.string s] w fun e w' => e = .returned (.slice (some ⟨w.heap.size, 0, none⟩) ((s.size + 1) / 2) ((s.size + 1) / 2)) ∧ Oct w w' ((s.size + 1) / 2) (pk s) := by
  go_enter Try.func6, Try.ntmps6
  go_wp2_with (at_make; refine make_row rfl _ _ 23 rfl 5 _ 1 1 Try.underlying23 info5 _ _ _ _ ((s.size + 1) / 2) rfl rfl ?b0 ?b1 ?b2 ?b3 ?_)
  case b0 => simp
  case b1 => simp
  case b2 => omega
  case b3 => unfold maxLen; omega
  intro w1 cur hcur hcs hbel
  go_wp2_with fail
  go_loopw [14] (fun i wr => ∃ (k : Nat), k ≤ (s.size + 1) / 2 ∧ i = .int .i64 k ∧ (∃ cur : Array Value, wr.heap[w.heap.size]? = some (.cells cur 5 (0, 0)) ∧ cur.size = (s.size + 1) / 2 ∧ ∀ j, j < k → cur[j]? = some (.int .u8 240)) ∧ Below w.heap.size w wr)
    (fun i _ => (s.size + 1) / 2 - (intOf i).toNat)
  case atStart => exact ⟨0, Nat.zero_le _, rfl, ⟨cur, hcur, by omega, fun j hj => absurd hj (Nat.not_lt_zero _)⟩, hbel⟩
  case round =>
    obtain ⟨k, hk, rfl, ⟨cur, hcur, hcs, hct⟩, hbl⟩ := hrel
    have HCT := hid hct
    clear hct
    by_cases hlt : k < (s.size + 1) / 2
    · obtain ⟨v0, hv0⟩ := row_cell (o := k) hcur (by omega)
      have hfr := fun o => frozen_of_row wr _ o _ _ hcur
      go_wp2_with fail
      go_roundw
      case rel =>
        refine ⟨k + 1, by omega, by go_num, ⟨cur.setIfInBounds k (.int .u8 240), heap_setCell_same wr _ k cur 5 _ hcur, by simp [hcs], fun j hj => ?_⟩, hbl.setCell (p := ⟨w.heap.size, k, none⟩) (Nat.le_refl _) _⟩
        rw [Array.getElem?_setIfInBounds]
        by_cases e : k = j
        · subst e; simp [hcs]; omega
        · rw [if_neg e]; exact HCT.out j (by omega)
      case measure => simp [intOf]; omega
    · have hoct : Oct w wr ((s.size + 1) / 2) (st s 0) := ⟨⟨cur, hcur, hcs, fun j hj => by rw [st_zero]; exact HCT.out j (by omega)⟩, hbl⟩
      have HOC := hid hoct
      clear hoct
      go_wp2_with fail
      go_loopw [23] (fun i wr => ∃ (k : Nat), k ≤ s.size ∧ i = .int .i64 k ∧ Oct w wr ((s.size + 1) / 2) (st s k))
        (fun i _ => s.size - (intOf i).toNat)
      case atStart => exact ⟨0, Nat.zero_le _, rfl, HOC.out⟩
      case round =>
        obtain ⟨k, hk, rfl, hoct⟩ := hrel
        have HO := hid hoct
        have hfr := hoct.frozen
        by_cases hlt : k < s.size
        · obtain ⟨j, hj | hj⟩ : ∃ j, k = 2 * j ∨ k = 2 * j + 1 := ⟨k / 2, by omega⟩
          · subst hj
            have hv0 := hoct.cell (j := j) (by omega)
            rw [st_at_even] at hv0
            clear hoct
            have HCE := hid (chr_eq s (2 * j) hlt)
            by_cases hd : ((s[2 * j].toNat : Int) == 102) = true
            · have HE := hid (show ev (chr s (2 * j)) = bits BinOp.or IntKind.u8 (bits BinOp.and IntKind.u8 240 240) 15 by rw [← HCE.out, ev, dg_f hd])
              go_wp2_with fail
              go_roundw
              case rel => exact ⟨2 * j + 1, by omega, by go_num, HO.out.put _ fun i hi => by rw [st_even, HE.out]⟩
              case measure => simp [intOf]; omega
            · have hd' : ((s[2 * j].toNat : Int) == 102) = false := by simpa using hd
              clear hd
              have HE := hid (show ev (chr s (2 * j)) = bits BinOp.or IntKind.u8 (bits BinOp.and IntKind.u8 240 240) (((s[2 * j].toNat : Int) - 48) % 256) by rw [← HCE.out, ev, dg_n hd'])
              go_wp2_with fail
              go_roundw
              case rel => exact ⟨2 * j + 1, by omega, by go_num, HO.out.put _ fun i hi => by rw [st_even, HE.out]⟩
              case measure => simp [intOf]; omega
          · subst hj
            have hv0 := hoct.cell (j := (2 * j + 1) / 2) (by omega)
            rw [show st s (2 * j + 1) ((2 * j + 1) / 2) = ev (chr s (2 * j)) by rw [show (2 * j + 1) / 2 = j by omega]; exact st_at_odd s j] at hv0
            obtain ⟨z, HZ, hz0, hz1⟩ : ∃ z, Hid (ev (chr s (2 * j)) = z) ∧ 0 ≤ z ∧ z ≤ 255 := ⟨_, rfl, ev_bd _⟩
            rw [HZ.out] at hv0
            clear hoct
            have HCE := hid (chr_eq s (2 * j + 1) hlt)
            have hjj : (2 * j + 1) / 2 = j := by omega
            have HJ := hid hjj
            clear hjj
            by_cases hd : ((s[2 * j + 1].toNat : Int) == 102) = true
            · have HE := hid (show od z (chr s (2 * j + 1)) = bits BinOp.or IntKind.u8 (z % 16) 240 by rw [← HCE.out, od, dg_f hd]; rfl)
              go_wp2_with fail
              go_roundw
              case rel => exact ⟨2 * j + 1 + 1, by omega, by go_num, HO.out.put _ fun i hi => by rw [st_odd, HZ.out, HE.out, HJ.out]⟩
              case measure => simp [intOf]; omega
            · have hd' : ((s[2 * j + 1].toNat : Int) == 102) = false := by simpa using hd
              clear hd
              have HE := hid (show od z (chr s (2 * j + 1)) = bits BinOp.or IntKind.u8 (z % 16) (((s[2 * j + 1].toNat : Int) - 48) % 256 * 16 % 256) by rw [← HCE.out, od, dg_n hd'])
              go_wp2_with fail
              go_roundw
              case rel => exact ⟨2 * j + 1 + 1, by omega, by go_num, HO.out.put _ fun i hi => by rw [st_odd, HZ.out, HE.out, HJ.out]⟩
              case measure => simp [intOf]; omega
        · have HK := hid (show k = s.size by omega)
          go_wp2_with fail
          go_ret
          have := HO.out
          rw [HK.out] at this
          exact ⟨rfl, this⟩
end Go.Proofs.Qxb6629277a
