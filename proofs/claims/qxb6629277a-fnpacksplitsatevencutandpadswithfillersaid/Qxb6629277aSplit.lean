import Derived.Test.Qxb6629277aLaws
import Derived.Deep.QuietTactic
import Derived.BigQuiet
namespace Go.Proofs.Qxb6629277a
open Go.RowKit
set_option linter.unusedVariables false
set_option linter.unusedSimpArgs false

theorem bt {a b c : World} (h : Below a.heap.size a b) (k : Below b.heap.size b c) : Below a.heap.size a c := h.trans (k.mono h.size)
theorem bd (w : World) (m : Nat) : Below w.heap.size w (w.drewN m) := ⟨rfl, rfl, rfl, Nat.le_refl _, fun _ _ => rfl⟩

def BoolPost (w : World) (e : Ending) (w' : World) : Prop := ∃ r, e = .returned (.bool r) ∧ w' = w

set_option maxHeartbeats 1000000 in
theorem zzb8_any (a b : ByteArray) (ha : a.size ≤ 9223372036854775807) (hb : b.size ≤ 9223372036854775807) (w : World) : Calls Try.prog 8 #[.string a, .string b] w fun e w' => BoolPost w e w' := by
  by_cases h : a.size ≤ 1048576
  · by_cases h2 : b.size ≤ 1048576
    · by_cases h3 : (a.size : Int) + b.size ≤ 1048576
      · go_enter Try.func8, Try.ntmps8
        go_wp2_with fail
        go_ret
        exact ⟨_, rfl, rfl⟩
      · go_enter Try.func8, Try.ntmps8
        go_wp2_with fail
        go_ret
        exact ⟨_, rfl, rfl⟩
    · go_enter Try.func8, Try.ntmps8
      go_wp2_with fail
      go_ret
      exact ⟨_, rfl, rfl⟩
  · go_enter Try.func8, Try.ntmps8
    go_wp2_with fail
    go_ret
    exact ⟨_, rfl, rfl⟩

set_option maxRecDepth 10000 in
set_option maxHeartbeats 4000000 in
theorem split_any (a b : ByteArray) (ha : a.size ≤ maxLen) (hb : b.size ≤ maxLen) (w : World) : Calls Try.prog 4 #[.string a, .string b] w fun e w' => e = .returned (.bool true) ∧ Below w.heap.size w w' := by
  unfold maxLen at ha hb
  go_enter Try.func4, Try.ntmps4
  go_wp2_with fail
  refine (zzb8_any a b (by omega) (by omega) w).mono ?_
  rintro e w0 ⟨r, rfl, rfl⟩
  cases r with
  | false =>
    go_wp2_with fail
    go_ret
    exact ⟨rfl, Below.refl _ _⟩
  | true =>
    by_cases ha2 : a.size ≤ 524288
    · by_cases hb2 : b.size ≤ 524288
      · by_cases hev : a.size % 2 = 0
        · have hev' : ((a.size : Int) % 2 == 0) = true := by rw [beq_iff_eq]; omega
          have HEV := hid hev
          clear hev
          have hns : ¬ 9223372036854775807 < a.size + b.size := by omega
          have HS := hid (size_app a b)
          have hsz : (a ++ b).size ≤ 1048576 := by rw [HS.out]; omega
          obtain ⟨ab, HAB, hab⟩ : ∃ x, Hid (a ++ b = x) ∧ x.size ≤ 1048576 := ⟨_, rfl, hsz⟩
          clear hsz
          have hns' : ¬ 9223372036854775807 < ab.size := by omega
          have HLA := hid (fun wx => pack_any a (by omega) wx)
          have HLB := hid (fun wx => pack_any b (by omega) wx)
          have HLP : Hid (∀ wx, Calls Try.prog 6 #[.string (a ++ b)] wx fun e w' => e = .returned (.slice (some ⟨wx.heap.size, 0, none⟩) ((a.size + b.size + 1) / 2) ((a.size + b.size + 1) / 2)) ∧ Oct wx w' ((a.size + b.size + 1) / 2) (pk (a ++ b))) := fun wx => by
            have := pack_any (a ++ b) (by rw [HAB.out]; omega) wx
            rw [HS.out] at this
            exact this
          go_wp2_with fail
          refine (HLP.out _).mono ?_
          rintro e w1 ⟨rfl, hp⟩
          go_wp2_with fail
          refine (HLA.out _).mono ?_
          rintro e w2 ⟨rfl, hpa⟩
          go_wp2_with fail
          refine (HLB.out _).mono ?_
          rintro e w3 ⟨rfl, hpb⟩
          have h13 := bt hpa.2 hpb.2
          have hA3 := bt hp.2 h13
          have HP := hid hp
          have HPA := hid hpa
          have HPB := hid hpb
          clear hp hpa hpb
          have hhalf : (a.size + b.size + 1) / 2 = (a.size + 1) / 2 + (b.size + 1) / 2 := by have := HEV.out; omega
          have HH := hid hhalf
          have hhi : ((a.size : Int) + b.size + 1) / 2 = (a.size + 1) / 2 + (b.size + 1) / 2 := by have := HEV.out; omega
          have HHI := hid hhi
          clear hhalf hhi
          go_wp2_with fail
          have HC1 : Hid (∀ k, k < (a.size + 1) / 2 → ∃ z, w3.cell? ⟨w0.heap.size, k, none⟩ = some (.int .u8 z) ∧ w3.cell? ⟨w1.heap.size, k, none⟩ = some (.int .u8 z)) := fun k hk => by
            have h1 := cell_later h13 (HP.out.cell (j := k) (by have := HH.out; omega))
            rw [pk_left a b HEV.out k (by have := HEV.out; omega)] at h1
            exact ⟨_, h1, cell_later HPB.out.2 (HPA.out.cell hk)⟩
          have HC2 : Hid (∀ k, k < (b.size + 1) / 2 → ∃ z, w3.cell? ⟨w0.heap.size, (a.size + 1) / 2 + k, none⟩ = some (.int .u8 z) ∧ w3.cell? ⟨w2.heap.size, k, none⟩ = some (.int .u8 z)) := fun k hk => by
            have h1 := cell_later h13 (HP.out.cell (j := (a.size + 1) / 2 + k) (by have := HH.out; omega))
            rw [show (a.size + 1) / 2 = a.size / 2 by have := HEV.out; omega, pk_right a b HEV.out k] at h1
            rw [show (a.size + 1) / 2 = a.size / 2 by have := HEV.out; omega]
            exact ⟨_, h1, HPB.out.cell hk⟩
          go_loopw [9] (fun i wr => ∃ k m : Nat, k ≤ (a.size + 1) / 2 ∧ i = .int .i64 k ∧ wr = w3.drewN m) (fun i _ => (a.size + 1) / 2 - (intOf i).toNat)
          case atStart => exact ⟨0, 0, Nat.zero_le _, rfl, rfl⟩
          case round =>
            obtain ⟨k, m, hk, rfl, rfl⟩ := hrel
            by_cases hlt : k < (a.size + 1) / 2
            · obtain ⟨z, c1, c2⟩ := HC1.out k hlt
              have hi1 : (k : Int) < ((a.size : Int) + b.size + 1) / 2 := by have := HHI.out; omega
              have hi2 : (k : Int) < ((a.size : Int) + 1) / 2 := by omega
              go_wp2_with fail
              go_quiet (fail)
              go_wp2_with fail
              go_roundw
              case rel => exact ⟨k + 1, _, by omega, by go_num, rfl⟩
              case measure => simp [intOf]; omega
            · go_wp2_with fail
              go_loopw [10] (fun i wr => ∃ k m : Nat, k ≤ (b.size + 1) / 2 ∧ i = .int .i64 k ∧ wr = w3.drewN m) (fun i _ => (b.size + 1) / 2 - (intOf i).toNat)
              case atStart => exact ⟨0, m, Nat.zero_le _, rfl, rfl⟩
              case round =>
                obtain ⟨k, m, hk, rfl, rfl⟩ := hrel
                by_cases hlt : k < (b.size + 1) / 2
                · obtain ⟨z, c1, c2⟩ := HC2.out k hlt
                  have hi1 : ((a.size : Int) + 1) / 2 + (k : Int) < ((a.size : Int) + b.size + 1) / 2 := by have := HHI.out; omega
                  have hi2 : (k : Int) < ((b.size : Int) + 1) / 2 := by omega
                  go_wp2_with fail
                  go_quiet (fail)
                  go_wp2_with fail
                  go_roundw
                  case rel => exact ⟨k + 1, _, by omega, by go_num, rfl⟩
                  case measure => simp [intOf]; omega
                · by_cases hob : b.size % 2 = 1
                  · have hob' : ((b.size : Int) % 2 == 1) = true := by rw [beq_iff_eq]; omega
                    have hbi : (b.size : Int) % 2 = 1 := by omega
                    have HBI := hid hbi
                    have HOB := hid hob
                    obtain ⟨z, cz, hz1, hz2⟩ : ∃ z, w3.cell? ⟨w0.heap.size, (a.size + b.size + 1) / 2 - 1, none⟩ = some (.int .u8 z) ∧ 240 ≤ z ∧ z ≤ 255 := by
                      have hodd : (a ++ b).size % 2 = 1 := by rw [HS.out]; have := HEV.out; omega
                      have h1 := cell_later h13 (HP.out.cell (j := (a.size + b.size + 1) / 2 - 1) (by omega))
                      have h2 := pk_last (a ++ b) hodd
                      rw [HS.out] at h2
                      have h3 := pk_in (a ++ b) ((a.size + b.size + 1) / 2 - 1)
                      exact ⟨_, h1, by omega, h3.2⟩
                    have HLF : Hid (∀ wx, Calls Try.prog 6 #[.string (b ++ ⟨#[102]⟩)] wx fun e w' => e = .returned (.slice (some ⟨wx.heap.size, 0, none⟩) ((b.size + 1) / 2) ((b.size + 1) / 2)) ∧ Oct wx w' ((b.size + 1) / 2) (pk (b ++ ⟨#[102]⟩))) := fun wx => by
                      have hs1 : (b ++ (⟨#[102]⟩ : ByteArray)).size = b.size + 1 := size_app ..
                      have := pack_any (b ++ ⟨#[102]⟩) (by rw [hs1]; omega) wx
                      rw [hs1, show (b.size + 1 + 1) / 2 = (b.size + 1) / 2 by have := HOB.out; omega] at this
                      exact this
                    have hpos : (0 : Int) < ((a.size : Int) + b.size + 1) / 2 := by omega
                    have hns2 : ¬ 9223372036854775807 < b.size + 1 := by omega
                    clear hob hbi
                    go_wp2_with fail
                    refine (HLF.out _).mono ?_
                    rintro e w4 ⟨rfl, hpf⟩
                    have h34 : Below w3.heap.size w3 w4 := bt (bd w3 m) hpf.2
                    have HC3 : Hid (∀ k, k < (b.size + 1) / 2 → ∃ z, w4.cell? ⟨w3.heap.size, k, none⟩ = some (.int .u8 z) ∧ w4.cell? ⟨w2.heap.size, k, none⟩ = some (.int .u8 z)) := fun k hk => by
                      have h1 := hpf.cell (j := k) hk
                      rw [pk_fill b HOB.out k hk] at h1
                      exact ⟨_, h1, cell_later h34 (HPB.out.cell hk)⟩
                    have hA4 := bt hA3 h34
                    clear hpf
                    go_wp2_with fail
                    go_loopw [12] (fun i wr => ∃ k m : Nat, k ≤ (b.size + 1) / 2 ∧ i = .int .i64 k ∧ wr = w4.drewN m) (fun i _ => (b.size + 1) / 2 - (intOf i).toNat)
                    case atStart => exact ⟨0, 0, Nat.zero_le _, rfl, rfl⟩
                    case round =>
                      obtain ⟨k, m, hk, rfl, rfl⟩ := hrel
                      by_cases hlt : k < (b.size + 1) / 2
                      · obtain ⟨z, c1, c2⟩ := HC3.out k hlt
                        have hi2 : (k : Int) < ((b.size : Int) + 1) / 2 := by omega
                        go_wp2_with fail
                        go_quiet (fail)
                        go_wp2_with fail
                        go_roundw
                        case rel => exact ⟨k + 1, _, by omega, by go_num, rfl⟩
                        case measure => simp [intOf]; omega
                      · go_wp2_with fail
                        go_ret
                        exact ⟨rfl, bt hA4 (bd w4 m)⟩
                  · have hob' : ((b.size : Int) % 2 == 1) = false := by rw [beq_eq_false_iff_ne]; omega
                    clear hob
                    go_wp2_with fail
                    go_ret
                    exact ⟨rfl, bt hA3 (bd w3 m)⟩
        · have hev' : ((a.size : Int) % 2 == 0) = false := by rw [beq_eq_false_iff_ne]; omega
          clear hev
          go_wp2_with fail
          go_ret
          exact ⟨rfl, Below.refl _ _⟩
      · go_wp2_with fail
        go_ret
        exact ⟨rfl, Below.refl _ _⟩
    · go_wp2_with fail
      go_ret
      exact ⟨rfl, Below.refl _ _⟩
end Go.Proofs.Qxb6629277a
