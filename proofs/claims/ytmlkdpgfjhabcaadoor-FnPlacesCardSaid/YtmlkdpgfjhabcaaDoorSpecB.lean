/-
  Contracts of the reference, part two: lengths by comparing, turned and moved numbers, bytes, the width of a uint.
-/
import Derived.Test.YtmlkdpgfjhabcaaDoorSpec
namespace Go.Proofs.YtmlkdpgfjhabcaaDoor
open Go.RowKit Go.Lathe
theorem two_pow_pred_half (k : Nat) : (2 ^ (k + 1) - 1) / 2 = 2 ^ k - 1 := by
  rw [Nat.pow_succ]; omega
set_option maxHeartbeats 1000000 in
theorem s_Width (w : World) : Calls Tryd.prog 21 #[] w fun e w' => e = .returned (.int .i64 64) ∧ w = w' := by
  go_enter Tryd.func21, Tryd.ntmps21
  go_wp2
  go_loop [1, 2] (fun n x => ∃ k : Nat, k ≤ 64 ∧ n = .int .i64 ((64 - k : Nat) : Int) ∧ x = .int .u64 ((2 ^ k - 1 : Nat) : Int)) (fun n _ => 64 - (intOf n).toNat)
  case atStart => exact ⟨64, Nat.le_refl _, rfl, rfl⟩
  case round =>
    obtain ⟨k, hk, rfl, rfl⟩ := hrel
    by_cases h0 : k = 0
    · subst h0
      go_wp2
      go_ret
      exact ⟨rfl, rfl⟩
    · obtain ⟨m, rfl⟩ : ∃ m, k = m + 1 := ⟨k - 1, by omega⟩
      have hp := two_pow_pred_half m
      have h1 : 1 ≤ 2 ^ (m + 1) - 1 := by
        have := Nat.two_pow_pos m
        rw [Nat.pow_succ]; omega
      have h2 : 2 ^ (m + 1) - 1 < 2 ^ 64 := by
        have := two_pow_le (m + 1) 64 hk
        have := Nat.two_pow_pos (m + 1)
        omega
      have HP := Lib.hid hp
      clear hp h0 h2
      generalize 2 ^ (m + 1) - 1 = y at h1 HP ⊢
      have hne : ((y : Int) != 0) = true := by simp; omega
      obtain ⟨c, hc, hc2⟩ : ∃ c, c = 64 - (m + 1) ∧ c ≤ 63 := ⟨_, rfl, by omega⟩
      rw [← hc]
      have HC := Lib.hid hc
      clear hc
      go_wp2
      go_round
      case rel => exact ⟨m, by omega, by have := HC.out; go_num, by rw [← HP.out]; go_num⟩
      case measure => simp [intOf]; omega
end Go.Proofs.YtmlkdpgfjhabcaaDoor
