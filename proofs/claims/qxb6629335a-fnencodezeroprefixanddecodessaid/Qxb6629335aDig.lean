import Derived.Test.Qxb6629335aEnc
namespace Go.Proofs.Qxb6629335a
open Go.RowKit
set_option linter.unusedVariables false
set_option linter.unusedSimpArgs false

theorem alpha_runs (d : Nat) (h : d < 58) : (alpha d : Int) = if d < 9 then 49 + (d : Int) else if d < 17 then 65 + ((d : Int) - 9) else if d < 22 then 74 + ((d : Int) - 17) else if d < 33 then 80 + ((d : Int) - 22) else if d < 44 then 97 + ((d : Int) - 33) else 109 + ((d : Int) - 44) := by
  have key : ∀ d : Fin 58, (alpha d.val : Int) = if d.val < 9 then 49 + (d.val : Int) else if d.val < 17 then 65 + ((d.val : Int) - 9) else if d.val < 22 then 74 + ((d.val : Int) - 17) else if d.val < 33 then 80 + ((d.val : Int) - 22) else if d.val < 44 then 97 + ((d.val : Int) - 33) else 109 + ((d.val : Int) - 44) := by decide +kernel
  exact key ⟨d, h⟩

theorem ret_u8 {a b : Int} (h : a = b) : Ending.returned (.int .u8 a) = .returned (.int .u8 b) := by rw [h]

set_option maxHeartbeats 1000000 in
theorem digitChar_any (d : Nat) (h : d < 58) (w : World) : Calls Try.prog 10 #[.int .i64 (d : Int)] w fun e w' => e = .returned (.int .u8 (alpha d : Int)) ∧ w' = w := by
  have HA := hid (alpha_runs d h)
  by_cases h1 : d < 9
  · go_enter Try.func10, Try.ntmps10
    go_wp2_with fail
    go_ret
    exact ⟨ret_u8 (by rw [HA.out, if_pos (by omega)]), rfl⟩
  · by_cases h2 : d < 17
    · go_enter Try.func10, Try.ntmps10
      go_wp2_with fail
      go_ret
      exact ⟨ret_u8 (by rw [HA.out, if_neg (by omega), if_pos (by omega)]), rfl⟩
    · by_cases h3 : d < 22
      · go_enter Try.func10, Try.ntmps10
        go_wp2_with fail
        go_ret
        exact ⟨ret_u8 (by rw [HA.out, if_neg (by omega), if_neg (by omega), if_pos (by omega)]), rfl⟩
      · by_cases h4 : d < 33
        · go_enter Try.func10, Try.ntmps10
          go_wp2_with fail
          go_ret
          exact ⟨ret_u8 (by rw [HA.out, if_neg (by omega), if_neg (by omega), if_neg (by omega), if_pos (by omega)]), rfl⟩
        · by_cases h5 : d < 44
          · go_enter Try.func10, Try.ntmps10
            go_wp2_with fail
            go_ret
            exact ⟨ret_u8 (by rw [HA.out, if_neg (by omega), if_neg (by omega), if_neg (by omega), if_neg (by omega), if_pos (by omega)]), rfl⟩
          · go_enter Try.func10, Try.ntmps10
            go_wp2_with fail
            go_ret
            exact ⟨ret_u8 (by rw [HA.out, if_neg (by omega), if_neg (by omega), if_neg (by omega), if_neg (by omega), if_neg (by omega)]), rfl⟩
end Go.Proofs.Qxb6629335a
