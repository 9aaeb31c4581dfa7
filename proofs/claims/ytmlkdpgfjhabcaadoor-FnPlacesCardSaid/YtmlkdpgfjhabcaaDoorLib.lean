/-
  Contracts of math/bits (Go's library) and of the thin package over it: what each function returns, for every argument; the world is as it was.
-/
import Derived.Test.YtmlkdpgfjhabcaaDoorProg
import Derived.Test.YtmlkdpgfjhabcaaDoorBits
import Derived.WalkKit
import Derived.WalkLawsBesides
import Derived.Outline
import Derived.Deep.QuietTactic
import Derived.BigQuiet
namespace Go.Proofs.YtmlkdpgfjhabcaaDoor
open Go.RowKit Go.Lathe

set_option maxRecDepth 100000 in
theorem b_Len16_t (x y1 : Nat) (w : World) (_hx : x < 65536) (_g1 : (256 : Int) ≤ (x : Int)) (_e1 : (x : Int) / 256 = (y1 : Int)) (hz : y1 < 256) : Calls Tryd.prog 24 #[.int .u16 x] w fun e w' => e = .returned (.int .i64 ((8 + len y1 : Nat) : Int)) ∧ w = w' := by
  have b : (y1 : Int) ≤ 255 := by omega
  have e8 := len8_is y1 hz
  have lb : len y1 ≤ 8 := len_le 8 y1 hz
  go_enter Tryd.func24, Tryd.ntmps24
  go_wp2
  go_ret
  exact ⟨ret_int (by omega), rfl⟩
set_option maxRecDepth 100000 in
theorem b_Len16_f (x : Nat) (w : World) (_hx : x < 65536) (_g1 : decide ((256 : Int) ≤ (x : Int)) = false) (hz : x < 256) : Calls Tryd.prog 24 #[.int .u16 x] w fun e w' => e = .returned (.int .i64 ((0 + len x : Nat) : Int)) ∧ w = w' := by
  have b : (x : Int) ≤ 255 := by omega
  have e8 := len8_is x hz
  have lb : len x ≤ 8 := len_le 8 x hz
  go_enter Tryd.func24, Tryd.ntmps24
  go_wp2
  go_ret
  exact ⟨ret_int (by omega), rfl⟩
theorem b_Len16 (x : Nat) (hx : x < 65536) (w : World) : Calls Tryd.prog 24 #[.int .u16 x] w fun e w' => e = .returned (.int .i64 (len x)) ∧ w = w' := by
  by_cases h0 : 256 ≤ x
  · have L : len x = 8 + len (x / 256) := by rw [len_shift 8 (x) h0, show (2 : Nat) ^ 8 = 256 from rfl]
    rw [L]
    exact b_Len16_t x (x / 256) w hx (by omega) (by omega) (by omega)
  · have L : len x = 0 + len x := by omega
    rw [L]
    exact b_Len16_f x  w hx (by simp; omega) (by omega)
set_option maxRecDepth 100000 in
theorem b_Len32_tt (x y1 y2 : Nat) (w : World) (_hx : x < 4294967296) (_g1 : (65536 : Int) ≤ (x : Int)) (_e1 : (x : Int) / 65536 = (y1 : Int)) (_g2 : (256 : Int) ≤ (y1 : Int)) (_e2 : (y1 : Int) / 256 = (y2 : Int)) (hz : y2 < 256) : Calls Tryd.prog 28 #[.int .u32 x] w fun e w' => e = .returned (.int .i64 ((24 + len y2 : Nat) : Int)) ∧ w = w' := by
  have b : (y2 : Int) ≤ 255 := by omega
  have e8 := len8_is y2 hz
  have lb : len y2 ≤ 8 := len_le 8 y2 hz
  go_enter Tryd.func28, Tryd.ntmps28
  go_wp2
  go_ret
  exact ⟨ret_int (by omega), rfl⟩
set_option maxRecDepth 100000 in
theorem b_Len32_tf (x y1 : Nat) (w : World) (_hx : x < 4294967296) (_g1 : (65536 : Int) ≤ (x : Int)) (_e1 : (x : Int) / 65536 = (y1 : Int)) (_g2 : decide ((256 : Int) ≤ (y1 : Int)) = false) (hz : y1 < 256) : Calls Tryd.prog 28 #[.int .u32 x] w fun e w' => e = .returned (.int .i64 ((16 + len y1 : Nat) : Int)) ∧ w = w' := by
  have b : (y1 : Int) ≤ 255 := by omega
  have e8 := len8_is y1 hz
  have lb : len y1 ≤ 8 := len_le 8 y1 hz
  go_enter Tryd.func28, Tryd.ntmps28
  go_wp2
  go_ret
  exact ⟨ret_int (by omega), rfl⟩
set_option maxRecDepth 100000 in
theorem b_Len32_ft (x y2 : Nat) (w : World) (_hx : x < 4294967296) (_g1 : decide ((65536 : Int) ≤ (x : Int)) = false) (_g2 : (256 : Int) ≤ (x : Int)) (_e2 : (x : Int) / 256 = (y2 : Int)) (hz : y2 < 256) : Calls Tryd.prog 28 #[.int .u32 x] w fun e w' => e = .returned (.int .i64 ((8 + len y2 : Nat) : Int)) ∧ w = w' := by
  have b : (y2 : Int) ≤ 255 := by omega
  have e8 := len8_is y2 hz
  have lb : len y2 ≤ 8 := len_le 8 y2 hz
  go_enter Tryd.func28, Tryd.ntmps28
  go_wp2
  go_ret
  exact ⟨ret_int (by omega), rfl⟩
set_option maxRecDepth 100000 in
theorem b_Len32_ff (x : Nat) (w : World) (_hx : x < 4294967296) (_g1 : decide ((65536 : Int) ≤ (x : Int)) = false) (_g2 : decide ((256 : Int) ≤ (x : Int)) = false) (hz : x < 256) : Calls Tryd.prog 28 #[.int .u32 x] w fun e w' => e = .returned (.int .i64 ((0 + len x : Nat) : Int)) ∧ w = w' := by
  have b : (x : Int) ≤ 255 := by omega
  have e8 := len8_is x hz
  have lb : len x ≤ 8 := len_le 8 x hz
  go_enter Tryd.func28, Tryd.ntmps28
  go_wp2
  go_ret
  exact ⟨ret_int (by omega), rfl⟩
theorem b_Len32 (x : Nat) (hx : x < 4294967296) (w : World) : Calls Tryd.prog 28 #[.int .u32 x] w fun e w' => e = .returned (.int .i64 (len x)) ∧ w = w' := by
  by_cases h0 : 65536 ≤ x
  · by_cases h1 : 256 ≤ x / 65536
    · have L : len x = 24 + len (x / 65536 / 256) := by rw [len_shift 16 (x) h0, show (2 : Nat) ^ 16 = 65536 from rfl, len_shift 8 (x / 65536) h1, show (2 : Nat) ^ 8 = 256 from rfl]; omega
      rw [L]
      exact b_Len32_tt x (x / 65536) (x / 65536 / 256) w hx (by omega) (by omega) (by omega) (by omega) (by omega)
    · have L : len x = 16 + len (x / 65536) := by rw [len_shift 16 (x) h0, show (2 : Nat) ^ 16 = 65536 from rfl]
      rw [L]
      exact b_Len32_tf x (x / 65536) w hx (by omega) (by omega) (by simp; omega) (by omega)
  · by_cases h1 : 256 ≤ x
    · have L : len x = 8 + len (x / 256) := by rw [len_shift 8 (x) h1, show (2 : Nat) ^ 8 = 256 from rfl]
      rw [L]
      exact b_Len32_ft x (x / 256) w hx (by simp; omega) (by omega) (by omega) (by omega)
    · have L : len x = 0 + len x := by omega
      rw [L]
      exact b_Len32_ff x  w hx (by simp; omega) (by simp; omega) (by omega)
set_option maxRecDepth 100000 in
theorem b_Len64_ttt (x y1 y2 y3 : Nat) (w : World) (_hx : x < 18446744073709551616) (_g1 : (4294967296 : Int) ≤ (x : Int)) (_e1 : (x : Int) / 4294967296 = (y1 : Int)) (_g2 : (65536 : Int) ≤ (y1 : Int)) (_e2 : (y1 : Int) / 65536 = (y2 : Int)) (_g3 : (256 : Int) ≤ (y2 : Int)) (_e3 : (y2 : Int) / 256 = (y3 : Int)) (hz : y3 < 256) : Calls Tryd.prog 31 #[.int .u64 x] w fun e w' => e = .returned (.int .i64 ((56 + len y3 : Nat) : Int)) ∧ w = w' := by
  have b : (y3 : Int) ≤ 255 := by omega
  have e8 := len8_is y3 hz
  have lb : len y3 ≤ 8 := len_le 8 y3 hz
  go_enter Tryd.func31, Tryd.ntmps31
  go_wp2
  go_ret
  exact ⟨ret_int (by omega), rfl⟩
set_option maxRecDepth 100000 in
theorem b_Len64_ttf (x y1 y2 : Nat) (w : World) (_hx : x < 18446744073709551616) (_g1 : (4294967296 : Int) ≤ (x : Int)) (_e1 : (x : Int) / 4294967296 = (y1 : Int)) (_g2 : (65536 : Int) ≤ (y1 : Int)) (_e2 : (y1 : Int) / 65536 = (y2 : Int)) (_g3 : decide ((256 : Int) ≤ (y2 : Int)) = false) (hz : y2 < 256) : Calls Tryd.prog 31 #[.int .u64 x] w fun e w' => e = .returned (.int .i64 ((48 + len y2 : Nat) : Int)) ∧ w = w' := by
  have b : (y2 : Int) ≤ 255 := by omega
  have e8 := len8_is y2 hz
  have lb : len y2 ≤ 8 := len_le 8 y2 hz
  go_enter Tryd.func31, Tryd.ntmps31
  go_wp2
  go_ret
  exact ⟨ret_int (by omega), rfl⟩
set_option maxRecDepth 100000 in
theorem b_Len64_tft (x y1 y3 : Nat) (w : World) (_hx : x < 18446744073709551616) (_g1 : (4294967296 : Int) ≤ (x : Int)) (_e1 : (x : Int) / 4294967296 = (y1 : Int)) (_g2 : decide ((65536 : Int) ≤ (y1 : Int)) = false) (_g3 : (256 : Int) ≤ (y1 : Int)) (_e3 : (y1 : Int) / 256 = (y3 : Int)) (hz : y3 < 256) : Calls Tryd.prog 31 #[.int .u64 x] w fun e w' => e = .returned (.int .i64 ((40 + len y3 : Nat) : Int)) ∧ w = w' := by
  have b : (y3 : Int) ≤ 255 := by omega
  have e8 := len8_is y3 hz
  have lb : len y3 ≤ 8 := len_le 8 y3 hz
  go_enter Tryd.func31, Tryd.ntmps31
  go_wp2
  go_ret
  exact ⟨ret_int (by omega), rfl⟩
set_option maxRecDepth 100000 in
theorem b_Len64_tff (x y1 : Nat) (w : World) (_hx : x < 18446744073709551616) (_g1 : (4294967296 : Int) ≤ (x : Int)) (_e1 : (x : Int) / 4294967296 = (y1 : Int)) (_g2 : decide ((65536 : Int) ≤ (y1 : Int)) = false) (_g3 : decide ((256 : Int) ≤ (y1 : Int)) = false) (hz : y1 < 256) : Calls Tryd.prog 31 #[.int .u64 x] w fun e w' => e = .returned (.int .i64 ((32 + len y1 : Nat) : Int)) ∧ w = w' := by
  have b : (y1 : Int) ≤ 255 := by omega
  have e8 := len8_is y1 hz
  have lb : len y1 ≤ 8 := len_le 8 y1 hz
  go_enter Tryd.func31, Tryd.ntmps31
  go_wp2
  go_ret
  exact ⟨ret_int (by omega), rfl⟩
set_option maxRecDepth 100000 in
theorem b_Len64_ftt (x y2 y3 : Nat) (w : World) (_hx : x < 18446744073709551616) (_g1 : decide ((4294967296 : Int) ≤ (x : Int)) = false) (_g2 : (65536 : Int) ≤ (x : Int)) (_e2 : (x : Int) / 65536 = (y2 : Int)) (_g3 : (256 : Int) ≤ (y2 : Int)) (_e3 : (y2 : Int) / 256 = (y3 : Int)) (hz : y3 < 256) : Calls Tryd.prog 31 #[.int .u64 x] w fun e w' => e = .returned (.int .i64 ((24 + len y3 : Nat) : Int)) ∧ w = w' := by
  have b : (y3 : Int) ≤ 255 := by omega
  have e8 := len8_is y3 hz
  have lb : len y3 ≤ 8 := len_le 8 y3 hz
  go_enter Tryd.func31, Tryd.ntmps31
  go_wp2
  go_ret
  exact ⟨ret_int (by omega), rfl⟩
set_option maxRecDepth 100000 in
theorem b_Len64_ftf (x y2 : Nat) (w : World) (_hx : x < 18446744073709551616) (_g1 : decide ((4294967296 : Int) ≤ (x : Int)) = false) (_g2 : (65536 : Int) ≤ (x : Int)) (_e2 : (x : Int) / 65536 = (y2 : Int)) (_g3 : decide ((256 : Int) ≤ (y2 : Int)) = false) (hz : y2 < 256) : Calls Tryd.prog 31 #[.int .u64 x] w fun e w' => e = .returned (.int .i64 ((16 + len y2 : Nat) : Int)) ∧ w = w' := by
  have b : (y2 : Int) ≤ 255 := by omega
  have e8 := len8_is y2 hz
  have lb : len y2 ≤ 8 := len_le 8 y2 hz
  go_enter Tryd.func31, Tryd.ntmps31
  go_wp2
  go_ret
  exact ⟨ret_int (by omega), rfl⟩
set_option maxRecDepth 100000 in
theorem b_Len64_fft (x y3 : Nat) (w : World) (_hx : x < 18446744073709551616) (_g1 : decide ((4294967296 : Int) ≤ (x : Int)) = false) (_g2 : decide ((65536 : Int) ≤ (x : Int)) = false) (_g3 : (256 : Int) ≤ (x : Int)) (_e3 : (x : Int) / 256 = (y3 : Int)) (hz : y3 < 256) : Calls Tryd.prog 31 #[.int .u64 x] w fun e w' => e = .returned (.int .i64 ((8 + len y3 : Nat) : Int)) ∧ w = w' := by
  have b : (y3 : Int) ≤ 255 := by omega
  have e8 := len8_is y3 hz
  have lb : len y3 ≤ 8 := len_le 8 y3 hz
  go_enter Tryd.func31, Tryd.ntmps31
  go_wp2
  go_ret
  exact ⟨ret_int (by omega), rfl⟩
set_option maxRecDepth 100000 in
theorem b_Len64_fff (x : Nat) (w : World) (_hx : x < 18446744073709551616) (_g1 : decide ((4294967296 : Int) ≤ (x : Int)) = false) (_g2 : decide ((65536 : Int) ≤ (x : Int)) = false) (_g3 : decide ((256 : Int) ≤ (x : Int)) = false) (hz : x < 256) : Calls Tryd.prog 31 #[.int .u64 x] w fun e w' => e = .returned (.int .i64 ((0 + len x : Nat) : Int)) ∧ w = w' := by
  have b : (x : Int) ≤ 255 := by omega
  have e8 := len8_is x hz
  have lb : len x ≤ 8 := len_le 8 x hz
  go_enter Tryd.func31, Tryd.ntmps31
  go_wp2
  go_ret
  exact ⟨ret_int (by omega), rfl⟩
theorem b_Len64 (x : Nat) (hx : x < 18446744073709551616) (w : World) : Calls Tryd.prog 31 #[.int .u64 x] w fun e w' => e = .returned (.int .i64 (len x)) ∧ w = w' := by
  by_cases h0 : 4294967296 ≤ x
  · by_cases h1 : 65536 ≤ x / 4294967296
    · by_cases h2 : 256 ≤ x / 4294967296 / 65536
      · have L : len x = 56 + len (x / 4294967296 / 65536 / 256) := by rw [len_shift 32 (x) h0, show (2 : Nat) ^ 32 = 4294967296 from rfl, len_shift 16 (x / 4294967296) h1, show (2 : Nat) ^ 16 = 65536 from rfl, len_shift 8 (x / 4294967296 / 65536) h2, show (2 : Nat) ^ 8 = 256 from rfl]; omega
        rw [L]
        exact b_Len64_ttt x (x / 4294967296) (x / 4294967296 / 65536) (x / 4294967296 / 65536 / 256) w hx (by omega) (by omega) (by omega) (by omega) (by omega) (by omega) (by omega)
      · have L : len x = 48 + len (x / 4294967296 / 65536) := by rw [len_shift 32 (x) h0, show (2 : Nat) ^ 32 = 4294967296 from rfl, len_shift 16 (x / 4294967296) h1, show (2 : Nat) ^ 16 = 65536 from rfl]; omega
        rw [L]
        exact b_Len64_ttf x (x / 4294967296) (x / 4294967296 / 65536) w hx (by omega) (by omega) (by omega) (by omega) (by simp; omega) (by omega)
    · by_cases h2 : 256 ≤ x / 4294967296
      · have L : len x = 40 + len (x / 4294967296 / 256) := by rw [len_shift 32 (x) h0, show (2 : Nat) ^ 32 = 4294967296 from rfl, len_shift 8 (x / 4294967296) h2, show (2 : Nat) ^ 8 = 256 from rfl]; omega
        rw [L]
        exact b_Len64_tft x (x / 4294967296) (x / 4294967296 / 256) w hx (by omega) (by omega) (by simp; omega) (by omega) (by omega) (by omega)
      · have L : len x = 32 + len (x / 4294967296) := by rw [len_shift 32 (x) h0, show (2 : Nat) ^ 32 = 4294967296 from rfl]
        rw [L]
        exact b_Len64_tff x (x / 4294967296) w hx (by omega) (by omega) (by simp; omega) (by simp; omega) (by omega)
  · by_cases h1 : 65536 ≤ x
    · by_cases h2 : 256 ≤ x / 65536
      · have L : len x = 24 + len (x / 65536 / 256) := by rw [len_shift 16 (x) h1, show (2 : Nat) ^ 16 = 65536 from rfl, len_shift 8 (x / 65536) h2, show (2 : Nat) ^ 8 = 256 from rfl]; omega
        rw [L]
        exact b_Len64_ftt x (x / 65536) (x / 65536 / 256) w hx (by simp; omega) (by omega) (by omega) (by omega) (by omega) (by omega)
      · have L : len x = 16 + len (x / 65536) := by rw [len_shift 16 (x) h1, show (2 : Nat) ^ 16 = 65536 from rfl]
        rw [L]
        exact b_Len64_ftf x (x / 65536) w hx (by simp; omega) (by omega) (by omega) (by simp; omega) (by omega)
    · by_cases h2 : 256 ≤ x
      · have L : len x = 8 + len (x / 256) := by rw [len_shift 8 (x) h2, show (2 : Nat) ^ 8 = 256 from rfl]
        rw [L]
        exact b_Len64_fft x (x / 256) w hx (by simp; omega) (by simp; omega) (by omega) (by omega) (by omega)
      · have L : len x = 0 + len x := by omega
        rw [L]
        exact b_Len64_fff x  w hx (by simp; omega) (by simp; omega) (by simp; omega) (by omega)
theorem b_OnesCount16 (x : Nat) (hx : x < 65536) (w : World) : Calls Tryd.prog 26 #[.int .u16 x] w fun e w' => e = .returned (.int .i64 (pc 16 x)) ∧ ∃ nq, w' = w.drewN nq := by
  have P : pc 16 x = pc 8 (x % 256) + pc 8 (x / 256) := by
    have h1 := pc_add 8 8 x
    have h2 := pc_mod 8 x
    rw [show (2 : Nat) ^ 8 = 256 from rfl] at h1 h2
    simp only [Nat.reduceAdd] at h1
    omega
  have eA := and255_u16 x hx
  have eD : (x : Int) / 256 = ((x / 256 : Nat) : Int) := by simp
  have hl : x % 256 < 256 := by omega
  have hh : x / 256 < 256 := by omega
  rw [P]
  clear P
  generalize x % 256 = lo at eA hl ⊢
  generalize x / 256 = hi at eD hh ⊢
  have b1 : (lo : Int) ≤ 255 := by omega
  have b2 : (hi : Int) ≤ 255 := by omega
  have e1 := pop8_is lo hl
  have e2 := pop8_is hi hh
  have l1 := pc_le 8 lo
  have l2 := pc_le 8 hi
  go_enter Tryd.func26, Tryd.ntmps26
  go_wp2
  go_quiet (fail)
  go_wp2
  go_ret
  exact ⟨ret_int (by omega), nq, rfl⟩
theorem b_OnesCount32 (x : Nat) (hx : x < 4294967296) (w : World) : Calls Tryd.prog 29 #[.int .u32 x] w fun e w' => e = .returned (.int .i64 (pc 32 x)) ∧ ∃ nq, w' = w.drewN nq := by
  have P : pc 32 x = pc 8 (x % 256) + pc 8 (x / 256 % 256) + pc 8 (x / 65536 % 256) + pc 8 (x / 16777216) := by
    have h1 := pc_add 8 24 x
    have h2 := pc_add 8 16 (x / 256)
    have h3 := pc_add 8 8 (x / 65536)
    have m1 := pc_mod 8 x
    have m2 := pc_mod 8 (x / 256)
    have m3 := pc_mod 8 (x / 65536)
    rw [show (2 : Nat) ^ 8 = 256 from rfl] at h1 h2 h3 m1 m2 m3
    rw [Nat.div_div_eq_div_mul] at h2 h3
    simp only [Nat.reduceMul, Nat.reduceAdd] at h1 h2 h3
    omega
  have eA := and255_u32 x hx
  have eB := and255_u32 (x / 256) (by omega)
  have eC := and255_u32 (x / 65536) (by omega)
  have eD : (x : Int) / 16777216 = ((x / 16777216 : Nat) : Int) := by simp
  have eE : (x : Int) / 65536 = ((x / 65536 : Nat) : Int) := by simp
  have eF : (x : Int) / 256 = ((x / 256 : Nat) : Int) := by simp
  have ha : x % 256 < 256 := by omega
  have hb : x / 256 % 256 < 256 := by omega
  have hc : x / 65536 % 256 < 256 := by omega
  have hd : x / 16777216 < 256 := by omega
  have hp : x / 65536 < 65536 := by omega
  have hq : x / 256 < 16777216 := by omega
  rw [P]
  clear P
  generalize x % 256 = a at eA ha ⊢
  generalize x / 256 % 256 = b at eB hb ⊢
  generalize x / 65536 % 256 = c at eC hc ⊢
  generalize x / 16777216 = d at eD hd ⊢
  generalize x / 65536 = p at eC eE hp
  generalize x / 256 = q at eB eF hq
  have b1 : (a : Int) ≤ 255 := by omega
  have b2 : (b : Int) ≤ 255 := by omega
  have b3 : (c : Int) ≤ 255 := by omega
  have b4 : (d : Int) ≤ 255 := by omega
  have e1 := pop8_is a ha
  have e2 := pop8_is b hb
  have e3 := pop8_is c hc
  have e4 := pop8_is d hd
  have l1 := pc_le 8 a
  have l2 := pc_le 8 b
  have l3 := pc_le 8 c
  have l4 := pc_le 8 d
  go_enter Tryd.func29, Tryd.ntmps29
  go_wp2
  go_quiet (fail)
  go_wp2
  go_ret
  exact ⟨ret_int (by omega), nq, rfl⟩
theorem oc_walk (x y1 y2 z z4 z5 z6 r : Nat) (w : World)
    (_R1 : IntKind.u64.wrap (bits .and .u64 ((x : Int) / 2) 6148914691236517205 + bits .and .u64 (x : Int) 6148914691236517205) = (y1 : Int))
    (_r2 : IntKind.u64.wrap (bits .and .u64 ((y1 : Int) / 4) 3689348814741910323 + bits .and .u64 (y1 : Int) 3689348814741910323) = (y2 : Int))
    (_r3 : bits .and .u64 (IntKind.u64.wrap ((y2 : Int) / 16 + (y2 : Int))) 1085102592571150095 = (z : Int))
    (_r4 : IntKind.u64.wrap ((z : Int) + (z : Int) / 256) = (z4 : Int))
    (_r5 : IntKind.u64.wrap ((z4 : Int) + (z4 : Int) / 65536) = (z5 : Int))
    (_r6 : IntKind.u64.wrap ((z5 : Int) + (z5 : Int) / 4294967296) = (z6 : Int))
    (_r7 : bits .and .i64 (wrap64 (z6 : Int)) 127 = (r : Int)) :
    Calls Tryd.prog 32 #[.int .u64 x] w fun e w' => e = .returned (.int .i64 r) ∧ w = w' := by
  go_enter Tryd.func32, Tryd.ntmps32
  go_wp2
  go_ret
  exact ⟨rfl, rfl⟩
theorem b_OnesCount64 (x : Nat) (hx : x < 18446744073709551616) (w : World) : Calls Tryd.prog 32 #[.int .u64 x] w fun e w' => e = .returned (.int .i64 (pc 64 x)) ∧ w = w' := by
  obtain ⟨l1, l2, l3, _, _⟩ := oc_steps x hx
  have R1 : IntKind.u64.wrap (bits .and .u64 ((x : Int) / 2) 6148914691236517205 + bits .and .u64 (x : Int) 6148914691236517205) = ((oc1 x : Nat) : Int) := by
    have a := u64_and_nat (x / 2) 6148914691236517205 (by omega) (by decide)
    have b := u64_and_nat x 6148914691236517205 hx (by decide)
    have a' : bits .and .u64 ((x : Int) / 2) 6148914691236517205 = ((x / 2 &&& 6148914691236517205 : Nat) : Int) := a
    have b' : bits .and .u64 (x : Int) 6148914691236517205 = ((x &&& 6148914691236517205 : Nat) : Int) := b
    rw [a', b', wrapw_u64]
    unfold oc1 at l1 ⊢
    omega
  have R2 : ∀ y : Nat, y < 18446744073709551616 → oc2 y < 18446744073709551616 → IntKind.u64.wrap (bits .and .u64 ((y : Int) / 4) 3689348814741910323 + bits .and .u64 (y : Int) 3689348814741910323) = ((oc2 y : Nat) : Int) := by
    intro y hy l
    have a := u64_and_nat (y / 4) 3689348814741910323 (by omega) (by decide)
    have b := u64_and_nat y 3689348814741910323 hy (by decide)
    have a' : bits .and .u64 ((y : Int) / 4) 3689348814741910323 = ((y / 4 &&& 3689348814741910323 : Nat) : Int) := a
    have b' : bits .and .u64 (y : Int) 3689348814741910323 = ((y &&& 3689348814741910323 : Nat) : Int) := b
    rw [a', b', wrapw_u64]
    unfold oc2 at l ⊢
    omega
  have R3 : ∀ y : Nat, y / 16 + y < 18446744073709551616 → bits .and .u64 (IntKind.u64.wrap ((y : Int) / 16 + (y : Int))) 1085102592571150095 = ((oc3 y : Nat) : Int) := by
    intro y l
    have e : IntKind.u64.wrap ((y : Int) / 16 + (y : Int)) = ((y / 16 + y : Nat) : Int) := by rw [wrapw_u64]; omega
    rw [e]
    exact u64_and_nat (y / 16 + y) 1085102592571150095 l (by decide)
  have r2 := R2 (oc1 x) l1 l2
  have r3 := R3 (oc2 (oc1 x)) l3
  obtain ⟨f1, f2⟩ := oc_last x hx _ rfl
  clear R2 R3
  generalize oc3 (oc2 (oc1 x)) = z at r3 f1 f2
  generalize oc2 (oc1 x) = y2 at r2 r3 l2 l3
  generalize oc1 x = y1 at R1 r2 l1 l2
  have r4 : IntKind.u64.wrap ((z : Int) + (z : Int) / 256) = ((z + z / 256 : Nat) : Int) := by rw [wrapw_u64]; omega
  generalize z + z / 256 = z4 at r4 f1 f2
  have r5 : IntKind.u64.wrap ((z4 : Int) + (z4 : Int) / 65536) = ((z4 + z4 / 65536 : Nat) : Int) := by rw [wrapw_u64]; omega
  generalize z4 + z4 / 65536 = z5 at r5 f1 f2
  have r6 : IntKind.u64.wrap ((z5 : Int) + (z5 : Int) / 4294967296) = ((z5 + z5 / 4294967296 : Nat) : Int) := by rw [wrapw_u64]; omega
  generalize z5 + z5 / 4294967296 = z6 at r6 f1 f2
  have r7 : bits .and .i64 (wrap64 (z6 : Int)) 127 = ((z6 % 128 : Nat) : Int) := by rw [← IntWalk.i64_left]; exact and127_wrap z6 f2
  rw [← f1]
  exact oc_walk x y1 y2 z z4 z5 z6 (z6 % 128) w R1 r2 r3 r4 r5 r6 r7

/-! ### uint is the 64 bit one -/
theorem b_Len (x : Nat) (hx : x < 18446744073709551616) (w : World) : Calls Tryd.prog 34 #[.int .u64 x] w fun e w' => e = .returned (.int .i64 (len x)) ∧ w = w' := by
  have hs := len_le 64 x hx
  go_enter Tryd.func34, Tryd.ntmps34
  go_wp2_with (go_at_call 31; refine (b_Len64 x hx _).mono ?_; rintro e w' ⟨rfl, rfl⟩)
  go_ret
  exact ⟨rfl, rfl⟩
theorem b_OnesCount (x : Nat) (hx : x < 18446744073709551616) (w : World) : Calls Tryd.prog 35 #[.int .u64 x] w fun e w' => e = .returned (.int .i64 (pc 64 x)) ∧ w = w' := by
  have hs := pc_le 64 x
  go_enter Tryd.func35, Tryd.ntmps35
  go_wp2_with (go_at_call 32; refine (b_OnesCount64 x hx _).mono ?_; rintro e w' ⟨rfl, rfl⟩)
  go_ret
  exact ⟨rfl, rfl⟩
/-! ### the thin package -/
theorem i_Len16 (x : Nat) (hx : x < 65536) (w : World) : Calls Tryd.prog 8 #[.int .u16 x] w fun e w' => e = .returned (.int .i64 (len x)) ∧ w = w' := by
  go_enter Tryd.func8, Tryd.ntmps8
  go_wp2_with (go_at_call 24; refine (b_Len16 x hx _).mono ?_; rintro e w' ⟨rfl, rfl⟩)
  go_ret
  exact ⟨rfl, rfl⟩
theorem i_OnesCount16 (x : Nat) (hx : x < 65536) (w : World) : Calls Tryd.prog 12 #[.int .u16 x] w fun e w' => e = .returned (.int .i64 (pc 16 x)) ∧ ∃ nq, w' = w.drewN nq := by
  go_enter Tryd.func12, Tryd.ntmps12
  go_wp2_with (go_at_call 26; refine (b_OnesCount16 x hx _).mono ?_; rintro e w' ⟨rfl, nq, rfl⟩)
  go_ret
  first
    | exact ⟨rfl, rfl⟩
    | exact ⟨rfl, _, rfl⟩
theorem i_Len32 (x : Nat) (hx : x < 4294967296) (w : World) : Calls Tryd.prog 14 #[.int .u32 x] w fun e w' => e = .returned (.int .i64 (len x)) ∧ w = w' := by
  go_enter Tryd.func14, Tryd.ntmps14
  go_wp2_with (go_at_call 28; refine (b_Len32 x hx _).mono ?_; rintro e w' ⟨rfl, rfl⟩)
  go_ret
  exact ⟨rfl, rfl⟩
theorem i_OnesCount32 (x : Nat) (hx : x < 4294967296) (w : World) : Calls Tryd.prog 15 #[.int .u32 x] w fun e w' => e = .returned (.int .i64 (pc 32 x)) ∧ ∃ nq, w' = w.drewN nq := by
  go_enter Tryd.func15, Tryd.ntmps15
  go_wp2_with (go_at_call 29; refine (b_OnesCount32 x hx _).mono ?_; rintro e w' ⟨rfl, nq, rfl⟩)
  go_ret
  first
    | exact ⟨rfl, rfl⟩
    | exact ⟨rfl, _, rfl⟩
theorem i_Len64 (x : Nat) (hx : x < 18446744073709551616) (w : World) : Calls Tryd.prog 17 #[.int .u64 x] w fun e w' => e = .returned (.int .i64 (len x)) ∧ w = w' := by
  go_enter Tryd.func17, Tryd.ntmps17
  go_wp2_with (go_at_call 31; refine (b_Len64 x hx _).mono ?_; rintro e w' ⟨rfl, rfl⟩)
  go_ret
  exact ⟨rfl, rfl⟩
theorem i_OnesCount64 (x : Nat) (hx : x < 18446744073709551616) (w : World) : Calls Tryd.prog 18 #[.int .u64 x] w fun e w' => e = .returned (.int .i64 (pc 64 x)) ∧ w = w' := by
  go_enter Tryd.func18, Tryd.ntmps18
  go_wp2_with (go_at_call 32; refine (b_OnesCount64 x hx _).mono ?_; rintro e w' ⟨rfl, rfl⟩)
  go_ret
  first
    | exact ⟨rfl, rfl⟩
    | exact ⟨rfl, _, rfl⟩
theorem i_Len (x : Nat) (hx : x < 18446744073709551616) (w : World) : Calls Tryd.prog 20 #[.int .u64 x] w fun e w' => e = .returned (.int .i64 (len x)) ∧ w = w' := by
  go_enter Tryd.func20, Tryd.ntmps20
  go_wp2_with (go_at_call 34; refine (b_Len x hx _).mono ?_; rintro e w' ⟨rfl, rfl⟩)
  go_ret
  exact ⟨rfl, rfl⟩
theorem i_OnesCount (x : Nat) (hx : x < 18446744073709551616) (w : World) : Calls Tryd.prog 22 #[.int .u64 x] w fun e w' => e = .returned (.int .i64 (pc 64 x)) ∧ w = w' := by
  go_enter Tryd.func22, Tryd.ntmps22
  go_wp2_with (go_at_call 35; refine (b_OnesCount x hx _).mono ?_; rintro e w' ⟨rfl, rfl⟩)
  go_ret
  first
    | exact ⟨rfl, rfl⟩
    | exact ⟨rfl, _, rfl⟩
theorem i_OnesCount16_max (w : World) : Calls Tryd.prog 12 #[.int .u16 65535] w fun e w' => e = .returned (.int .i64 16) ∧ ∃ nq, w' = w.drewN nq := by
  have h := i_OnesCount16 65535 (by decide) w
  rw [show pc 16 65535 = 16 from pc_ones 16] at h
  exact h
theorem i_OnesCount16_zero (w : World) : Calls Tryd.prog 12 #[.int .u16 0] w fun e w' => e = .returned (.int .i64 0) ∧ ∃ nq, w' = w.drewN nq := by
  have h := i_OnesCount16 0 (by decide) w
  rw [pc_zero] at h
  exact h
theorem enters_OnesCount16 (args : Array Value) (w : World) : (callFunc 12 args).run Tryd.prog w = .ok (.enter 12 args) w := by go_simp
theorem i_Len16_max (w : World) : Calls Tryd.prog 8 #[.int .u16 65535] w fun e w' => e = .returned (.int .i64 16) ∧ w = w' := by
  have h := i_Len16 65535 (by decide) w
  rw [show len 65535 = 16 from len_eq 65535 16 (lenIs_ones 16)] at h
  exact h
theorem i_OnesCount32_max (w : World) : Calls Tryd.prog 15 #[.int .u32 4294967295] w fun e w' => e = .returned (.int .i64 32) ∧ ∃ nq, w' = w.drewN nq := by
  have h := i_OnesCount32 4294967295 (by decide) w
  rw [show pc 32 4294967295 = 32 from pc_ones 32] at h
  exact h
theorem i_OnesCount32_zero (w : World) : Calls Tryd.prog 15 #[.int .u32 0] w fun e w' => e = .returned (.int .i64 0) ∧ ∃ nq, w' = w.drewN nq := by
  have h := i_OnesCount32 0 (by decide) w
  rw [pc_zero] at h
  exact h
theorem enters_OnesCount32 (args : Array Value) (w : World) : (callFunc 15 args).run Tryd.prog w = .ok (.enter 15 args) w := by go_simp
theorem i_Len32_max (w : World) : Calls Tryd.prog 14 #[.int .u32 4294967295] w fun e w' => e = .returned (.int .i64 32) ∧ w = w' := by
  have h := i_Len32 4294967295 (by decide) w
  rw [show len 4294967295 = 32 from len_eq 4294967295 32 (lenIs_ones 32)] at h
  exact h
theorem i_OnesCount64_max (w : World) : Calls Tryd.prog 18 #[.int .u64 18446744073709551615] w fun e w' => e = .returned (.int .i64 64) ∧ w = w' := by
  have h := i_OnesCount64 18446744073709551615 (by decide) w
  rw [show pc 64 18446744073709551615 = 64 from pc_ones 64] at h
  exact h
theorem i_OnesCount64_zero (w : World) : Calls Tryd.prog 18 #[.int .u64 0] w fun e w' => e = .returned (.int .i64 0) ∧ w = w' := by
  have h := i_OnesCount64 0 (by decide) w
  rw [pc_zero] at h
  exact h
theorem enters_OnesCount64 (args : Array Value) (w : World) : (callFunc 18 args).run Tryd.prog w = .ok (.enter 18 args) w := by go_simp
theorem i_Len64_max (w : World) : Calls Tryd.prog 17 #[.int .u64 18446744073709551615] w fun e w' => e = .returned (.int .i64 64) ∧ w = w' := by
  have h := i_Len64 18446744073709551615 (by decide) w
  rw [show len 18446744073709551615 = 64 from len_eq 18446744073709551615 64 (lenIs_ones 64)] at h
  exact h
theorem i_OnesCount_max (w : World) : Calls Tryd.prog 22 #[.int .u64 18446744073709551615] w fun e w' => e = .returned (.int .i64 64) ∧ w = w' := by
  have h := i_OnesCount 18446744073709551615 (by decide) w
  rw [show pc 64 18446744073709551615 = 64 from pc_ones 64] at h
  exact h
theorem i_OnesCount_zero (w : World) : Calls Tryd.prog 22 #[.int .u64 0] w fun e w' => e = .returned (.int .i64 0) ∧ w = w' := by
  have h := i_OnesCount 0 (by decide) w
  rw [pc_zero] at h
  exact h
theorem enters_OnesCount (args : Array Value) (w : World) : (callFunc 22 args).run Tryd.prog w = .ok (.enter 22 args) w := by go_simp
theorem i_Len_max (w : World) : Calls Tryd.prog 20 #[.int .u64 18446744073709551615] w fun e w' => e = .returned (.int .i64 64) ∧ w = w' := by
  have h := i_Len 18446744073709551615 (by decide) w
  rw [show len 18446744073709551615 = 64 from len_eq 18446744073709551615 64 (lenIs_ones 64)] at h
  exact h
end Go.Proofs.YtmlkdpgfjhabcaaDoor
