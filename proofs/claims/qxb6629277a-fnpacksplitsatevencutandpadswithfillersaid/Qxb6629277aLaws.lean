import Derived.Test.Qxb6629277aPk
namespace Go.Proofs.Qxb6629277a
open Go.RowKit
set_option linter.unusedVariables false
set_option linter.unusedSimpArgs false

theorem ev_hi (c : UInt8) : ev c / 16 = 15 := by
  have h : ∀ d : Fin 256, bits BinOp.or IntKind.u8 (bits BinOp.and IntKind.u8 240 240) (d.val : Int) / 16 = 15 := by decide +kernel
  have hb := dg_bd c
  have := h ⟨(dg c).toNat, by omega⟩
  simp only [Int.toNat_of_nonneg hb.1] at this
  exact this
theorem od_f (c : UInt8) : od (ev c) 102 = ev c := by
  have h : ∀ d : Fin 256, bits BinOp.or IntKind.u8 (bits BinOp.or IntKind.u8 (bits BinOp.and IntKind.u8 240 240) (d.val : Int) % 16) (15 * 16 % 256) = bits BinOp.or IntKind.u8 (bits BinOp.and IntKind.u8 240 240) (d.val : Int) := by decide +kernel
  have hb := dg_bd c
  have := h ⟨(dg c).toNat, by omega⟩
  simp only [Int.toNat_of_nonneg hb.1] at this
  exact this
theorem ev_lo {c : UInt8} (h15 : dg c ≤ 15) : ev c % 16 = dg c := by
  have h : ∀ d : Fin 16, bits BinOp.or IntKind.u8 (bits BinOp.and IntKind.u8 240 240) (d.val : Int) % 16 = (d.val : Int) := by decide +kernel
  have hb := dg_bd c
  have := h ⟨(dg c).toNat, by omega⟩
  simp only [Int.toNat_of_nonneg hb.1] at this
  exact this
theorem od_bd (z : Int) (c : UInt8) (h0 : 0 ≤ z) (h15 : dg c ≤ 15) : od z c = z % 16 + 16 * dg c := by
  have h : ∀ a b : Fin 16, bits BinOp.or IntKind.u8 (a.val : Int) ((b.val : Int) * 16 % 256) = (a.val : Int) + 16 * (b.val : Int) := by decide +kernel
  have hb := dg_bd c
  have := h ⟨(z % 16).toNat, by omega⟩ ⟨(dg c).toNat, by omega⟩
  simp only [Int.toNat_of_nonneg hb.1, Int.toNat_of_nonneg (show 0 ≤ z % 16 by omega)] at this
  exact this
theorem od_in (z : Int) (c : UInt8) : 0 ≤ od z c ∧ od z c ≤ 255 := by
  have h : ∀ a b : Fin 16, 0 ≤ bits BinOp.or IntKind.u8 (a.val : Int) ((b.val : Int) * 16 % 256) ∧ bits BinOp.or IntKind.u8 (a.val : Int) ((b.val : Int) * 16 % 256) ≤ 255 := by decide +kernel
  have hb := dg_bd c
  have := h ⟨(z % 16).toNat, by omega⟩ ⟨(dg c % 16).toNat, by omega⟩
  simp only [Int.toNat_of_nonneg (show 0 ≤ dg c % 16 by omega), Int.toNat_of_nonneg (show 0 ≤ z % 16 by omega)] at this
  rw [show dg c % 16 * 16 % 256 = dg c * 16 % 256 by omega] at this
  exact this
theorem pk_in (s : ByteArray) (j : Nat) : 0 ≤ pk s j ∧ pk s j ≤ 255 := by
  unfold pk st
  split
  · exact od_in _ _
  · split
    · exact ev_bd _
    · omega

/-! The octets of a text cut in two, and of a text with a filler behind it. -/
theorem chr_left (a b : ByteArray) (i : Nat) (h : i < a.size) : chr (a ++ b) i = chr a i := by
  have ha : i < a.data.toList.length := by simpa using h
  simp only [chr, ByteArray.data_append, Array.toList_append, List.getD_eq_getElem?_getD]
  rw [List.getElem?_append_left ha]
theorem chr_right (a b : ByteArray) (i : Nat) : chr (a ++ b) (a.size + i) = chr b i := by
  have ha : a.data.toList.length = a.size := by simp
  simp only [chr, ByteArray.data_append, Array.toList_append, List.getD_eq_getElem?_getD]
  rw [List.getElem?_append_right (by omega), ha, Nat.add_sub_cancel_left]
theorem size_app (a b : ByteArray) : (a ++ b).size = a.size + b.size := ByteArray.size_append ..

theorem pk_left (a b : ByteArray) (h2 : a.size % 2 = 0) (i : Nat) (hi : i < a.size / 2) : pk (a ++ b) i = pk a i := by
  unfold pk st
  rw [size_app, if_pos (by omega), if_pos (by omega), chr_left _ _ _ (by omega), chr_left _ _ _ (by omega)]
theorem pk_right (a b : ByteArray) (h2 : a.size % 2 = 0) (i : Nat) : pk (a ++ b) (a.size / 2 + i) = pk b i := by
  unfold pk st
  rw [size_app, show 2 * (a.size / 2 + i) = a.size + 2 * i by omega, show a.size + 2 * i + 1 = a.size + (2 * i + 1) by omega, chr_right, chr_right]
  by_cases h1 : 2 * i + 1 < b.size
  · rw [if_pos (by omega), if_pos h1]
  · rw [if_neg (by omega), if_neg h1]
    by_cases h3 : 2 * i < b.size
    · rw [if_pos (by omega), if_pos h3]
    · rw [if_neg (by omega), if_neg h3]
theorem pk_last (s : ByteArray) (h2 : s.size % 2 = 1) : pk s ((s.size + 1) / 2 - 1) / 16 = 15 := by
  unfold pk st
  rw [if_neg (by omega), if_pos (by omega), ev_hi]
theorem pk_fill (b : ByteArray) (h2 : b.size % 2 = 1) (i : Nat) (hi : i < (b.size + 1) / 2) : pk (b ++ ⟨#[102]⟩) i = pk b i := by
  have hs : (b ++ (⟨#[102]⟩ : ByteArray)).size = b.size + 1 := size_app ..
  unfold pk st
  rw [hs]
  by_cases h1 : 2 * i + 1 < b.size
  · rw [if_pos (by omega), if_pos h1, chr_left _ _ _ (by omega), chr_left _ _ _ (by omega)]
  · rw [if_pos (by omega), if_neg h1, if_pos (by omega), chr_left _ _ _ (by omega), show 2 * i + 1 = b.size + 0 by omega, chr_right]
    exact od_f _

/-- A valid digit. -/
def vld (c : UInt8) : Prop := (48 ≤ (c.toNat : Int) ∧ (c.toNat : Int) ≤ 57) ∨ (c.toNat : Int) = 102
def sp (v : Int) : Int := if v < 10 then 48 + v else if v = 15 then 102 else 0
theorem dg_vld {c : UInt8} (h : vld c) : 0 ≤ dg c ∧ dg c ≤ 15 ∧ sp (dg c) = c.toNat := by
  rcases h with h | h
  · have hd : dg c = (c.toNat : Int) - 48 := by
      rw [dg_n (by rw [beq_eq_false_iff_ne]; omega)]; omega
    rw [hd]
    refine ⟨by omega, by omega, ?_⟩
    unfold sp
    rw [if_pos (by omega)]; omega
  · rw [dg_f (by rw [beq_iff_eq]; exact h)]
    refine ⟨by omega, by omega, ?_⟩
    rw [h]; rfl
/-- What the reader finds of a packed valid text. -/
theorem pk_read {s : ByteArray} {j : Nat} (hj : 2 * j < s.size) (hv : ∀ i, i < s.size → vld (chr s i)) :
    sp (pk s j % 16) = (chr s (2 * j)).toNat ∧ (2 * j + 1 < s.size → sp (pk s j / 16) = (chr s (2 * j + 1)).toNat) ∧ (¬ 2 * j + 1 < s.size → sp (pk s j / 16) = 102) := by
  obtain ⟨a0, a1, a2⟩ := dg_vld (hv (2 * j) hj)
  have hev := ev_bd (chr s (2 * j))
  have hlo := ev_lo a1
  by_cases h : 2 * j + 1 < s.size
  · obtain ⟨b0, b1, b2⟩ := dg_vld (hv (2 * j + 1) h)
    have e : pk s j = dg (chr s (2 * j)) + 16 * dg (chr s (2 * j + 1)) := by
      unfold pk st
      rw [if_pos h, od_bd _ _ hev.1 b1, hlo]
    refine ⟨?_, fun _ => ?_, fun h' => absurd h h'⟩
    · rw [e, show (dg (chr s (2 * j)) + 16 * dg (chr s (2 * j + 1))) % 16 = dg (chr s (2 * j)) by omega, a2]
    · rw [e, show (dg (chr s (2 * j)) + 16 * dg (chr s (2 * j + 1))) / 16 = dg (chr s (2 * j + 1)) by omega, b2]
  · have e : pk s j = ev (chr s (2 * j)) := by unfold pk st; rw [if_neg h, if_pos hj]
    refine ⟨by rw [e, hlo, a2], fun h' => absurd h' h, fun _ => by rw [e, ev_hi]; rfl⟩
end Go.Proofs.Qxb6629277a
