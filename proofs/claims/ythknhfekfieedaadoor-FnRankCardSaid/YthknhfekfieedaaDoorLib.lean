/-
  Contracts of math/bits (Go's library) and of the thin package over it: what each function returns, for every argument; the world is as it was.
-/
import Derived.Test.YthknhfekfieedaaDoorProg
import Derived.Test.YthknhfekfieedaaDoorBits
import Derived.WalkKit
import Derived.WalkLawsBesides
import Derived.Outline
import Derived.Deep.QuietTactic
import Derived.BigQuiet
namespace Go.Proofs.YthknhfekfieedaaDoor
open Go.RowKit Go.Lathe

theorem b_Len8 (x : Nat) (hx : x < 256) (w : World) : Calls Tryd.prog 52 #[.int .u8 x] w fun e w' => e = .returned (.int .i64 (len x)) ∧ w = w' := by
  have h1 : (x : Int) ≤ 255 := by omega
  have e := len8_is x hx
  have hb : len x ≤ 8 := len_le 8 x hx
  go_enter Tryd.func52, Tryd.ntmps52
  go_wp2
  go_ret
  exact ⟨rfl, rfl⟩
theorem b_OnesCount8 (x : Nat) (hx : x < 256) (w : World) : Calls Tryd.prog 46 #[.int .u8 x] w fun e w' => e = .returned (.int .i64 (pc 8 x)) ∧ w = w' := by
  have h1 : (x : Int) ≤ 255 := by omega
  have e := pop8_is x hx
  have hb : pc 8 x ≤ 8 := pc_le 8 x
  go_enter Tryd.func46, Tryd.ntmps46
  go_wp2
  go_ret
  exact ⟨rfl, rfl⟩
theorem b_TrailingZeros8 (x : Nat) (hx : x < 256) (w : World) : Calls Tryd.prog 54 #[.int .u8 x] w fun e w' => e = .returned (.int .i64 (tz 8 x)) ∧ w = w' := by
  have h1 : (x : Int) ≤ 255 := by omega
  have e := ntz8_is x hx
  have hb : tz 8 x ≤ 8 := tz_le 8 x hx
  go_enter Tryd.func54, Tryd.ntmps54
  go_wp2
  go_ret
  exact ⟨rfl, rfl⟩
theorem b_Reverse8 (x : Nat) (hx : x < 256) (w : World) : Calls Tryd.prog 55 #[.int .u8 x] w fun e w' => e = .returned (.int .u8 (rev 8 x)) ∧ w = w' := by
  have h1 : (x : Int) ≤ 255 := by omega
  have e := rev8_is x hx
  go_enter Tryd.func55, Tryd.ntmps55
  go_wp2
  go_ret
  exact ⟨rfl, rfl⟩
theorem b_LeadingZeros8 (x : Nat) (hx : x < 256) (w : World) : Calls Tryd.prog 53 #[.int .u8 x] w fun e w' => e = .returned (.int .i64 (8 - (len x : Int))) ∧ w = w' := by
  have hb : len x ≤ 8 := len_le 8 x hx
  go_enter Tryd.func53, Tryd.ntmps53
  go_wp2_with (go_at_call 52; refine (b_Len8 x hx _).mono ?_; rintro e w' ⟨rfl, rfl⟩)
  go_ret
  exact ⟨rfl, rfl⟩
set_option maxRecDepth 100000 in
theorem b_Len16_t (x y1 : Nat) (w : World) (_hx : x < 65536) (_g1 : (256 : Int) ≤ (x : Int)) (_e1 : (x : Int) / 256 = (y1 : Int)) (hz : y1 < 256) : Calls Tryd.prog 47 #[.int .u16 x] w fun e w' => e = .returned (.int .i64 ((8 + len y1 : Nat) : Int)) ∧ w = w' := by
  have b : (y1 : Int) ≤ 255 := by omega
  have e8 := len8_is y1 hz
  have lb : len y1 ≤ 8 := len_le 8 y1 hz
  go_enter Tryd.func47, Tryd.ntmps47
  go_wp2
  go_ret
  exact ⟨ret_int (by omega), rfl⟩
set_option maxRecDepth 100000 in
theorem b_Len16_f (x : Nat) (w : World) (_hx : x < 65536) (_g1 : decide ((256 : Int) ≤ (x : Int)) = false) (hz : x < 256) : Calls Tryd.prog 47 #[.int .u16 x] w fun e w' => e = .returned (.int .i64 ((0 + len x : Nat) : Int)) ∧ w = w' := by
  have b : (x : Int) ≤ 255 := by omega
  have e8 := len8_is x hz
  have lb : len x ≤ 8 := len_le 8 x hz
  go_enter Tryd.func47, Tryd.ntmps47
  go_wp2
  go_ret
  exact ⟨ret_int (by omega), rfl⟩
theorem b_Len16 (x : Nat) (hx : x < 65536) (w : World) : Calls Tryd.prog 47 #[.int .u16 x] w fun e w' => e = .returned (.int .i64 (len x)) ∧ w = w' := by
  by_cases h0 : 256 ≤ x
  · have L : len x = 8 + len (x / 256) := by rw [len_shift 8 (x) h0, show (2 : Nat) ^ 8 = 256 from rfl]
    rw [L]
    exact b_Len16_t x (x / 256) w hx (by omega) (by omega) (by omega)
  · have L : len x = 0 + len x := by omega
    rw [L]
    exact b_Len16_f x  w hx (by simp; omega) (by omega)
theorem b_LeadingZeros16 (x : Nat) (hx : x < 65536) (w : World) : Calls Tryd.prog 48 #[.int .u16 x] w fun e w' => e = .returned (.int .i64 (16 - (len x : Int))) ∧ w = w' := by
  have hb : len x ≤ 16 := len_le 16 x hx
  go_enter Tryd.func48, Tryd.ntmps48
  go_wp2_with (go_at_call 47; refine (b_Len16 x hx _).mono ?_; rintro e w' ⟨rfl, rfl⟩)
  go_ret
  exact ⟨rfl, rfl⟩
set_option maxRecDepth 100000 in
theorem b_Len32_tt (x y1 y2 : Nat) (w : World) (_hx : x < 4294967296) (_g1 : (65536 : Int) ≤ (x : Int)) (_e1 : (x : Int) / 65536 = (y1 : Int)) (_g2 : (256 : Int) ≤ (y1 : Int)) (_e2 : (y1 : Int) / 256 = (y2 : Int)) (hz : y2 < 256) : Calls Tryd.prog 36 #[.int .u32 x] w fun e w' => e = .returned (.int .i64 ((24 + len y2 : Nat) : Int)) ∧ w = w' := by
  have b : (y2 : Int) ≤ 255 := by omega
  have e8 := len8_is y2 hz
  have lb : len y2 ≤ 8 := len_le 8 y2 hz
  go_enter Tryd.func36, Tryd.ntmps36
  go_wp2
  go_ret
  exact ⟨ret_int (by omega), rfl⟩
set_option maxRecDepth 100000 in
theorem b_Len32_tf (x y1 : Nat) (w : World) (_hx : x < 4294967296) (_g1 : (65536 : Int) ≤ (x : Int)) (_e1 : (x : Int) / 65536 = (y1 : Int)) (_g2 : decide ((256 : Int) ≤ (y1 : Int)) = false) (hz : y1 < 256) : Calls Tryd.prog 36 #[.int .u32 x] w fun e w' => e = .returned (.int .i64 ((16 + len y1 : Nat) : Int)) ∧ w = w' := by
  have b : (y1 : Int) ≤ 255 := by omega
  have e8 := len8_is y1 hz
  have lb : len y1 ≤ 8 := len_le 8 y1 hz
  go_enter Tryd.func36, Tryd.ntmps36
  go_wp2
  go_ret
  exact ⟨ret_int (by omega), rfl⟩
set_option maxRecDepth 100000 in
theorem b_Len32_ft (x y2 : Nat) (w : World) (_hx : x < 4294967296) (_g1 : decide ((65536 : Int) ≤ (x : Int)) = false) (_g2 : (256 : Int) ≤ (x : Int)) (_e2 : (x : Int) / 256 = (y2 : Int)) (hz : y2 < 256) : Calls Tryd.prog 36 #[.int .u32 x] w fun e w' => e = .returned (.int .i64 ((8 + len y2 : Nat) : Int)) ∧ w = w' := by
  have b : (y2 : Int) ≤ 255 := by omega
  have e8 := len8_is y2 hz
  have lb : len y2 ≤ 8 := len_le 8 y2 hz
  go_enter Tryd.func36, Tryd.ntmps36
  go_wp2
  go_ret
  exact ⟨ret_int (by omega), rfl⟩
set_option maxRecDepth 100000 in
theorem b_Len32_ff (x : Nat) (w : World) (_hx : x < 4294967296) (_g1 : decide ((65536 : Int) ≤ (x : Int)) = false) (_g2 : decide ((256 : Int) ≤ (x : Int)) = false) (hz : x < 256) : Calls Tryd.prog 36 #[.int .u32 x] w fun e w' => e = .returned (.int .i64 ((0 + len x : Nat) : Int)) ∧ w = w' := by
  have b : (x : Int) ≤ 255 := by omega
  have e8 := len8_is x hz
  have lb : len x ≤ 8 := len_le 8 x hz
  go_enter Tryd.func36, Tryd.ntmps36
  go_wp2
  go_ret
  exact ⟨ret_int (by omega), rfl⟩
theorem b_Len32 (x : Nat) (hx : x < 4294967296) (w : World) : Calls Tryd.prog 36 #[.int .u32 x] w fun e w' => e = .returned (.int .i64 (len x)) ∧ w = w' := by
  by_cases h0 : 65536 ≤ x
  · by_cases h1 : 256 ≤ x / 65536
    · have L : len x = 24 + len (x / 65536 / 256) := by rw [len_shift 16 (x) h0, show (2 : Nat) ^ 16 = 65536 from rfl, len_shift 8 (x / 65536) h1, show (2 : Nat) ^ 8 = 256 from rfl]; omega
      rw [L]
      exact b_Len32_tt x (x / 65536) (x / 65536 / 256) w hx (by omega) (by omega) (by omega) (by omega) (by omega)
    · have L : len x = 16 + len (x / 65536) := by rw [len_shift 16 (x) h0, show (2 : Nat) ^ 16 = 65536 from rfl]
      rw [L]
      exact b_Len32_tf x (x / 65536) w hx (by omega) (by omega) (by simp; omega) (by omega)
  · by_cases h1 : 256 ≤ x
    · have L : len x = 8 + len (x / 256) := by rw [len_shift 8 (x) h1, show (2 : Nat) ^ 8 = 256 from rfl]
      rw [L]
      exact b_Len32_ft x (x / 256) w hx (by simp; omega) (by omega) (by omega) (by omega)
    · have L : len x = 0 + len x := by omega
      rw [L]
      exact b_Len32_ff x  w hx (by simp; omega) (by simp; omega) (by omega)
theorem b_LeadingZeros32 (x : Nat) (hx : x < 4294967296) (w : World) : Calls Tryd.prog 38 #[.int .u32 x] w fun e w' => e = .returned (.int .i64 (32 - (len x : Int))) ∧ w = w' := by
  have hb : len x ≤ 32 := len_le 32 x hx
  go_enter Tryd.func38, Tryd.ntmps38
  go_wp2_with (go_at_call 36; refine (b_Len32 x hx _).mono ?_; rintro e w' ⟨rfl, rfl⟩)
  go_ret
  exact ⟨rfl, rfl⟩
set_option maxRecDepth 100000 in
theorem b_Len64_ttt (x y1 y2 y3 : Nat) (w : World) (_hx : x < 18446744073709551616) (_g1 : (4294967296 : Int) ≤ (x : Int)) (_e1 : (x : Int) / 4294967296 = (y1 : Int)) (_g2 : (65536 : Int) ≤ (y1 : Int)) (_e2 : (y1 : Int) / 65536 = (y2 : Int)) (_g3 : (256 : Int) ≤ (y2 : Int)) (_e3 : (y2 : Int) / 256 = (y3 : Int)) (hz : y3 < 256) : Calls Tryd.prog 37 #[.int .u64 x] w fun e w' => e = .returned (.int .i64 ((56 + len y3 : Nat) : Int)) ∧ w = w' := by
  have b : (y3 : Int) ≤ 255 := by omega
  have e8 := len8_is y3 hz
  have lb : len y3 ≤ 8 := len_le 8 y3 hz
  go_enter Tryd.func37, Tryd.ntmps37
  go_wp2
  go_ret
  exact ⟨ret_int (by omega), rfl⟩
set_option maxRecDepth 100000 in
theorem b_Len64_ttf (x y1 y2 : Nat) (w : World) (_hx : x < 18446744073709551616) (_g1 : (4294967296 : Int) ≤ (x : Int)) (_e1 : (x : Int) / 4294967296 = (y1 : Int)) (_g2 : (65536 : Int) ≤ (y1 : Int)) (_e2 : (y1 : Int) / 65536 = (y2 : Int)) (_g3 : decide ((256 : Int) ≤ (y2 : Int)) = false) (hz : y2 < 256) : Calls Tryd.prog 37 #[.int .u64 x] w fun e w' => e = .returned (.int .i64 ((48 + len y2 : Nat) : Int)) ∧ w = w' := by
  have b : (y2 : Int) ≤ 255 := by omega
  have e8 := len8_is y2 hz
  have lb : len y2 ≤ 8 := len_le 8 y2 hz
  go_enter Tryd.func37, Tryd.ntmps37
  go_wp2
  go_ret
  exact ⟨ret_int (by omega), rfl⟩
set_option maxRecDepth 100000 in
theorem b_Len64_tft (x y1 y3 : Nat) (w : World) (_hx : x < 18446744073709551616) (_g1 : (4294967296 : Int) ≤ (x : Int)) (_e1 : (x : Int) / 4294967296 = (y1 : Int)) (_g2 : decide ((65536 : Int) ≤ (y1 : Int)) = false) (_g3 : (256 : Int) ≤ (y1 : Int)) (_e3 : (y1 : Int) / 256 = (y3 : Int)) (hz : y3 < 256) : Calls Tryd.prog 37 #[.int .u64 x] w fun e w' => e = .returned (.int .i64 ((40 + len y3 : Nat) : Int)) ∧ w = w' := by
  have b : (y3 : Int) ≤ 255 := by omega
  have e8 := len8_is y3 hz
  have lb : len y3 ≤ 8 := len_le 8 y3 hz
  go_enter Tryd.func37, Tryd.ntmps37
  go_wp2
  go_ret
  exact ⟨ret_int (by omega), rfl⟩
set_option maxRecDepth 100000 in
theorem b_Len64_tff (x y1 : Nat) (w : World) (_hx : x < 18446744073709551616) (_g1 : (4294967296 : Int) ≤ (x : Int)) (_e1 : (x : Int) / 4294967296 = (y1 : Int)) (_g2 : decide ((65536 : Int) ≤ (y1 : Int)) = false) (_g3 : decide ((256 : Int) ≤ (y1 : Int)) = false) (hz : y1 < 256) : Calls Tryd.prog 37 #[.int .u64 x] w fun e w' => e = .returned (.int .i64 ((32 + len y1 : Nat) : Int)) ∧ w = w' := by
  have b : (y1 : Int) ≤ 255 := by omega
  have e8 := len8_is y1 hz
  have lb : len y1 ≤ 8 := len_le 8 y1 hz
  go_enter Tryd.func37, Tryd.ntmps37
  go_wp2
  go_ret
  exact ⟨ret_int (by omega), rfl⟩
set_option maxRecDepth 100000 in
theorem b_Len64_ftt (x y2 y3 : Nat) (w : World) (_hx : x < 18446744073709551616) (_g1 : decide ((4294967296 : Int) ≤ (x : Int)) = false) (_g2 : (65536 : Int) ≤ (x : Int)) (_e2 : (x : Int) / 65536 = (y2 : Int)) (_g3 : (256 : Int) ≤ (y2 : Int)) (_e3 : (y2 : Int) / 256 = (y3 : Int)) (hz : y3 < 256) : Calls Tryd.prog 37 #[.int .u64 x] w fun e w' => e = .returned (.int .i64 ((24 + len y3 : Nat) : Int)) ∧ w = w' := by
  have b : (y3 : Int) ≤ 255 := by omega
  have e8 := len8_is y3 hz
  have lb : len y3 ≤ 8 := len_le 8 y3 hz
  go_enter Tryd.func37, Tryd.ntmps37
  go_wp2
  go_ret
  exact ⟨ret_int (by omega), rfl⟩
set_option maxRecDepth 100000 in
theorem b_Len64_ftf (x y2 : Nat) (w : World) (_hx : x < 18446744073709551616) (_g1 : decide ((4294967296 : Int) ≤ (x : Int)) = false) (_g2 : (65536 : Int) ≤ (x : Int)) (_e2 : (x : Int) / 65536 = (y2 : Int)) (_g3 : decide ((256 : Int) ≤ (y2 : Int)) = false) (hz : y2 < 256) : Calls Tryd.prog 37 #[.int .u64 x] w fun e w' => e = .returned (.int .i64 ((16 + len y2 : Nat) : Int)) ∧ w = w' := by
  have b : (y2 : Int) ≤ 255 := by omega
  have e8 := len8_is y2 hz
  have lb : len y2 ≤ 8 := len_le 8 y2 hz
  go_enter Tryd.func37, Tryd.ntmps37
  go_wp2
  go_ret
  exact ⟨ret_int (by omega), rfl⟩
set_option maxRecDepth 100000 in
theorem b_Len64_fft (x y3 : Nat) (w : World) (_hx : x < 18446744073709551616) (_g1 : decide ((4294967296 : Int) ≤ (x : Int)) = false) (_g2 : decide ((65536 : Int) ≤ (x : Int)) = false) (_g3 : (256 : Int) ≤ (x : Int)) (_e3 : (x : Int) / 256 = (y3 : Int)) (hz : y3 < 256) : Calls Tryd.prog 37 #[.int .u64 x] w fun e w' => e = .returned (.int .i64 ((8 + len y3 : Nat) : Int)) ∧ w = w' := by
  have b : (y3 : Int) ≤ 255 := by omega
  have e8 := len8_is y3 hz
  have lb : len y3 ≤ 8 := len_le 8 y3 hz
  go_enter Tryd.func37, Tryd.ntmps37
  go_wp2
  go_ret
  exact ⟨ret_int (by omega), rfl⟩
set_option maxRecDepth 100000 in
theorem b_Len64_fff (x : Nat) (w : World) (_hx : x < 18446744073709551616) (_g1 : decide ((4294967296 : Int) ≤ (x : Int)) = false) (_g2 : decide ((65536 : Int) ≤ (x : Int)) = false) (_g3 : decide ((256 : Int) ≤ (x : Int)) = false) (hz : x < 256) : Calls Tryd.prog 37 #[.int .u64 x] w fun e w' => e = .returned (.int .i64 ((0 + len x : Nat) : Int)) ∧ w = w' := by
  have b : (x : Int) ≤ 255 := by omega
  have e8 := len8_is x hz
  have lb : len x ≤ 8 := len_le 8 x hz
  go_enter Tryd.func37, Tryd.ntmps37
  go_wp2
  go_ret
  exact ⟨ret_int (by omega), rfl⟩
theorem b_Len64 (x : Nat) (hx : x < 18446744073709551616) (w : World) : Calls Tryd.prog 37 #[.int .u64 x] w fun e w' => e = .returned (.int .i64 (len x)) ∧ w = w' := by
  by_cases h0 : 4294967296 ≤ x
  · by_cases h1 : 65536 ≤ x / 4294967296
    · by_cases h2 : 256 ≤ x / 4294967296 / 65536
      · have L : len x = 56 + len (x / 4294967296 / 65536 / 256) := by rw [len_shift 32 (x) h0, show (2 : Nat) ^ 32 = 4294967296 from rfl, len_shift 16 (x / 4294967296) h1, show (2 : Nat) ^ 16 = 65536 from rfl, len_shift 8 (x / 4294967296 / 65536) h2, show (2 : Nat) ^ 8 = 256 from rfl]; omega
        rw [L]
        exact b_Len64_ttt x (x / 4294967296) (x / 4294967296 / 65536) (x / 4294967296 / 65536 / 256) w hx (by omega) (by omega) (by omega) (by omega) (by omega) (by omega) (by omega)
      · have L : len x = 48 + len (x / 4294967296 / 65536) := by rw [len_shift 32 (x) h0, show (2 : Nat) ^ 32 = 4294967296 from rfl, len_shift 16 (x / 4294967296) h1, show (2 : Nat) ^ 16 = 65536 from rfl]; omega
        rw [L]
        exact b_Len64_ttf x (x / 4294967296) (x / 4294967296 / 65536) w hx (by omega) (by omega) (by omega) (by omega) (by simp; omega) (by omega)
    · by_cases h2 : 256 ≤ x / 4294967296
      · have L : len x = 40 + len (x / 4294967296 / 256) := by rw [len_shift 32 (x) h0, show (2 : Nat) ^ 32 = 4294967296 from rfl, len_shift 8 (x / 4294967296) h2, show (2 : Nat) ^ 8 = 256 from rfl]; omega
        rw [L]
        exact b_Len64_tft x (x / 4294967296) (x / 4294967296 / 256) w hx (by omega) (by omega) (by simp; omega) (by omega) (by omega) (by omega)
      · have L : len x = 32 + len (x / 4294967296) := by rw [len_shift 32 (x) h0, show (2 : Nat) ^ 32 = 4294967296 from rfl]
        rw [L]
        exact b_Len64_tff x (x / 4294967296) w hx (by omega) (by omega) (by simp; omega) (by simp; omega) (by omega)
  · by_cases h1 : 65536 ≤ x
    · by_cases h2 : 256 ≤ x / 65536
      · have L : len x = 24 + len (x / 65536 / 256) := by rw [len_shift 16 (x) h1, show (2 : Nat) ^ 16 = 65536 from rfl, len_shift 8 (x / 65536) h2, show (2 : Nat) ^ 8 = 256 from rfl]; omega
        rw [L]
        exact b_Len64_ftt x (x / 65536) (x / 65536 / 256) w hx (by simp; omega) (by omega) (by omega) (by omega) (by omega) (by omega)
      · have L : len x = 16 + len (x / 65536) := by rw [len_shift 16 (x) h1, show (2 : Nat) ^ 16 = 65536 from rfl]
        rw [L]
        exact b_Len64_ftf x (x / 65536) w hx (by simp; omega) (by omega) (by omega) (by simp; omega) (by omega)
    · by_cases h2 : 256 ≤ x
      · have L : len x = 8 + len (x / 256) := by rw [len_shift 8 (x) h2, show (2 : Nat) ^ 8 = 256 from rfl]
        rw [L]
        exact b_Len64_fft x (x / 256) w hx (by simp; omega) (by simp; omega) (by omega) (by omega) (by omega)
      · have L : len x = 0 + len x := by omega
        rw [L]
        exact b_Len64_fff x  w hx (by simp; omega) (by simp; omega) (by simp; omega) (by omega)
theorem b_LeadingZeros64 (x : Nat) (hx : x < 18446744073709551616) (w : World) : Calls Tryd.prog 39 #[.int .u64 x] w fun e w' => e = .returned (.int .i64 (64 - (len x : Int))) ∧ w = w' := by
  have hb : len x ≤ 64 := len_le 64 x hx
  go_enter Tryd.func39, Tryd.ntmps39
  go_wp2_with (go_at_call 37; refine (b_Len64 x hx _).mono ?_; rintro e w' ⟨rfl, rfl⟩)
  go_ret
  exact ⟨rfl, rfl⟩
theorem b_OnesCount16 (x : Nat) (hx : x < 65536) (w : World) : Calls Tryd.prog 35 #[.int .u16 x] w fun e w' => e = .returned (.int .i64 (pc 16 x)) ∧ ∃ nq, w' = w.drewN nq := by
  have P : pc 16 x = pc 8 (x % 256) + pc 8 (x / 256) := by
    have h1 := pc_add 8 8 x
    have h2 := pc_mod 8 x
    rw [show (2 : Nat) ^ 8 = 256 from rfl] at h1 h2
    simp only [Nat.reduceAdd] at h1
    omega
  have eA := and255_u16 x hx
  have eD : (x : Int) / 256 = ((x / 256 : Nat) : Int) := by simp
  have hl : x % 256 < 256 := by omega
  have hh : x / 256 < 256 := by omega
  rw [P]
  clear P
  generalize x % 256 = lo at eA hl ⊢
  generalize x / 256 = hi at eD hh ⊢
  have b1 : (lo : Int) ≤ 255 := by omega
  have b2 : (hi : Int) ≤ 255 := by omega
  have e1 := pop8_is lo hl
  have e2 := pop8_is hi hh
  have l1 := pc_le 8 lo
  have l2 := pc_le 8 hi
  go_enter Tryd.func35, Tryd.ntmps35
  go_wp2
  go_quiet (fail)
  go_wp2
  go_ret
  exact ⟨ret_int (by omega), nq, rfl⟩
theorem b_OnesCount32 (x : Nat) (hx : x < 4294967296) (w : World) : Calls Tryd.prog 33 #[.int .u32 x] w fun e w' => e = .returned (.int .i64 (pc 32 x)) ∧ ∃ nq, w' = w.drewN nq := by
  have P : pc 32 x = pc 8 (x % 256) + pc 8 (x / 256 % 256) + pc 8 (x / 65536 % 256) + pc 8 (x / 16777216) := by
    have h1 := pc_add 8 24 x
    have h2 := pc_add 8 16 (x / 256)
    have h3 := pc_add 8 8 (x / 65536)
    have m1 := pc_mod 8 x
    have m2 := pc_mod 8 (x / 256)
    have m3 := pc_mod 8 (x / 65536)
    rw [show (2 : Nat) ^ 8 = 256 from rfl] at h1 h2 h3 m1 m2 m3
    rw [Nat.div_div_eq_div_mul] at h2 h3
    simp only [Nat.reduceMul, Nat.reduceAdd] at h1 h2 h3
    omega
  have eA := and255_u32 x hx
  have eB := and255_u32 (x / 256) (by omega)
  have eC := and255_u32 (x / 65536) (by omega)
  have eD : (x : Int) / 16777216 = ((x / 16777216 : Nat) : Int) := by simp
  have eE : (x : Int) / 65536 = ((x / 65536 : Nat) : Int) := by simp
  have eF : (x : Int) / 256 = ((x / 256 : Nat) : Int) := by simp
  have ha : x % 256 < 256 := by omega
  have hb : x / 256 % 256 < 256 := by omega
  have hc : x / 65536 % 256 < 256 := by omega
  have hd : x / 16777216 < 256 := by omega
  have hp : x / 65536 < 65536 := by omega
  have hq : x / 256 < 16777216 := by omega
  rw [P]
  clear P
  generalize x % 256 = a at eA ha ⊢
  generalize x / 256 % 256 = b at eB hb ⊢
  generalize x / 65536 % 256 = c at eC hc ⊢
  generalize x / 16777216 = d at eD hd ⊢
  generalize x / 65536 = p at eC eE hp
  generalize x / 256 = q at eB eF hq
  have b1 : (a : Int) ≤ 255 := by omega
  have b2 : (b : Int) ≤ 255 := by omega
  have b3 : (c : Int) ≤ 255 := by omega
  have b4 : (d : Int) ≤ 255 := by omega
  have e1 := pop8_is a ha
  have e2 := pop8_is b hb
  have e3 := pop8_is c hc
  have e4 := pop8_is d hd
  have l1 := pc_le 8 a
  have l2 := pc_le 8 b
  have l3 := pc_le 8 c
  have l4 := pc_le 8 d
  go_enter Tryd.func33, Tryd.ntmps33
  go_wp2
  go_quiet (fail)
  go_wp2
  go_ret
  exact ⟨ret_int (by omega), nq, rfl⟩
theorem oc_walk (x y1 y2 z z4 z5 z6 r : Nat) (w : World)
    (_R1 : IntKind.u64.wrap (bits .and .u64 ((x : Int) / 2) 6148914691236517205 + bits .and .u64 (x : Int) 6148914691236517205) = (y1 : Int))
    (_r2 : IntKind.u64.wrap (bits .and .u64 ((y1 : Int) / 4) 3689348814741910323 + bits .and .u64 (y1 : Int) 3689348814741910323) = (y2 : Int))
    (_r3 : bits .and .u64 (IntKind.u64.wrap ((y2 : Int) / 16 + (y2 : Int))) 1085102592571150095 = (z : Int))
    (_r4 : IntKind.u64.wrap ((z : Int) + (z : Int) / 256) = (z4 : Int))
    (_r5 : IntKind.u64.wrap ((z4 : Int) + (z4 : Int) / 65536) = (z5 : Int))
    (_r6 : IntKind.u64.wrap ((z5 : Int) + (z5 : Int) / 4294967296) = (z6 : Int))
    (_r7 : bits .and .i64 (wrap64 (z6 : Int)) 127 = (r : Int)) :
    Calls Tryd.prog 34 #[.int .u64 x] w fun e w' => e = .returned (.int .i64 r) ∧ w = w' := by
  go_enter Tryd.func34, Tryd.ntmps34
  go_wp2
  go_ret
  exact ⟨rfl, rfl⟩
theorem b_OnesCount64 (x : Nat) (hx : x < 18446744073709551616) (w : World) : Calls Tryd.prog 34 #[.int .u64 x] w fun e w' => e = .returned (.int .i64 (pc 64 x)) ∧ w = w' := by
  obtain ⟨l1, l2, l3, _, _⟩ := oc_steps x hx
  have R1 : IntKind.u64.wrap (bits .and .u64 ((x : Int) / 2) 6148914691236517205 + bits .and .u64 (x : Int) 6148914691236517205) = ((oc1 x : Nat) : Int) := by
    have a := u64_and_nat (x / 2) 6148914691236517205 (by omega) (by decide)
    have b := u64_and_nat x 6148914691236517205 hx (by decide)
    have a' : bits .and .u64 ((x : Int) / 2) 6148914691236517205 = ((x / 2 &&& 6148914691236517205 : Nat) : Int) := a
    have b' : bits .and .u64 (x : Int) 6148914691236517205 = ((x &&& 6148914691236517205 : Nat) : Int) := b
    rw [a', b', wrapw_u64]
    unfold oc1 at l1 ⊢
    omega
  have R2 : ∀ y : Nat, y < 18446744073709551616 → oc2 y < 18446744073709551616 → IntKind.u64.wrap (bits .and .u64 ((y : Int) / 4) 3689348814741910323 + bits .and .u64 (y : Int) 3689348814741910323) = ((oc2 y : Nat) : Int) := by
    intro y hy l
    have a := u64_and_nat (y / 4) 3689348814741910323 (by omega) (by decide)
    have b := u64_and_nat y 3689348814741910323 hy (by decide)
    have a' : bits .and .u64 ((y : Int) / 4) 3689348814741910323 = ((y / 4 &&& 3689348814741910323 : Nat) : Int) := a
    have b' : bits .and .u64 (y : Int) 3689348814741910323 = ((y &&& 3689348814741910323 : Nat) : Int) := b
    rw [a', b', wrapw_u64]
    unfold oc2 at l ⊢
    omega
  have R3 : ∀ y : Nat, y / 16 + y < 18446744073709551616 → bits .and .u64 (IntKind.u64.wrap ((y : Int) / 16 + (y : Int))) 1085102592571150095 = ((oc3 y : Nat) : Int) := by
    intro y l
    have e : IntKind.u64.wrap ((y : Int) / 16 + (y : Int)) = ((y / 16 + y : Nat) : Int) := by rw [wrapw_u64]; omega
    rw [e]
    exact u64_and_nat (y / 16 + y) 1085102592571150095 l (by decide)
  have r2 := R2 (oc1 x) l1 l2
  have r3 := R3 (oc2 (oc1 x)) l3
  obtain ⟨f1, f2⟩ := oc_last x hx _ rfl
  clear R2 R3
  generalize oc3 (oc2 (oc1 x)) = z at r3 f1 f2
  generalize oc2 (oc1 x) = y2 at r2 r3 l2 l3
  generalize oc1 x = y1 at R1 r2 l1 l2
  have r4 : IntKind.u64.wrap ((z : Int) + (z : Int) / 256) = ((z + z / 256 : Nat) : Int) := by rw [wrapw_u64]; omega
  generalize z + z / 256 = z4 at r4 f1 f2
  have r5 : IntKind.u64.wrap ((z4 : Int) + (z4 : Int) / 65536) = ((z4 + z4 / 65536 : Nat) : Int) := by rw [wrapw_u64]; omega
  generalize z4 + z4 / 65536 = z5 at r5 f1 f2
  have r6 : IntKind.u64.wrap ((z5 : Int) + (z5 : Int) / 4294967296) = ((z5 + z5 / 4294967296 : Nat) : Int) := by rw [wrapw_u64]; omega
  generalize z5 + z5 / 4294967296 = z6 at r6 f1 f2
  have r7 : bits .and .i64 (wrap64 (z6 : Int)) 127 = ((z6 % 128 : Nat) : Int) := by rw [← IntWalk.i64_left]; exact and127_wrap z6 f2
  rw [← f1]
  exact oc_walk x y1 y2 z z4 z5 z6 (z6 % 128) w R1 r2 r3 r4 r5 r6 r7
theorem b_ReverseBytes16 (x : Nat) (hx : x < 65536) (w : World) : Calls Tryd.prog 51 #[.int .u16 x] w fun e w' => e = .returned (.int .u16 (revB 16 x)) ∧ w = w' := by
  have r := halfw_u16 x 256 8 hx rfl
  rw [rb16_eq x hx] at r
  have R : bits .or .u16 ((x : Int) / 256) (IntKind.u16.wrap ((x : Int) * 256)) = ((revB 16 x : Nat) : Int) := r
  clear r
  go_enter Tryd.func51, Tryd.ntmps51
  go_wp2
  go_ret
  exact ⟨rfl, rfl⟩
theorem b_ReverseBytes32 (x : Nat) (hx : x < 4294967296) (w : World) : Calls Tryd.prog 44 #[.int .u32 x] w fun e w' => e = .returned (.int .u32 (revB 32 x)) ∧ w = w' := by
  have e : revB 32 x = rb32 x := (rb32_eq x).symm
  have r1 := swpm_u32 x 16711935 8 256 hx (by decide) rfl
  have l1 := swp_lt 32 8 16711935 x (by decide)
  have r2 := halfm_u32 (swp 32 8 16711935 x) 65536 16 l1 rfl
  have f : rb32 x = (swp 32 8 16711935 x / 2 ^ 16 ||| swp 32 8 16711935 x * 2 ^ 16 % 2 ^ 32) := rfl
  rw [← f, ← e] at r2
  have R1 : bits .or .u32 (bits .and .u32 ((x : Int) / 256) 16711935) (bits .and .u32 (x : Int) 16711935 * 256 % 4294967296) = ((swp 32 8 16711935 x : Nat) : Int) := r1
  have R2 : bits .or .u32 ((swp 32 8 16711935 x : Nat) / 65536 : Int) ((swp 32 8 16711935 x : Nat) * 65536 % 4294967296 : Int) = ((revB 32 x : Nat) : Int) := r2
  clear r1 r2 l1 f e
  generalize swp 32 8 16711935 x = y at R1 R2
  generalize revB 32 x = z at R2 ⊢
  go_enter Tryd.func44, Tryd.ntmps44
  go_wp2
  go_ret
  exact ⟨rfl, rfl⟩
theorem b_ReverseBytes64 (x : Nat) (hx : x < 18446744073709551616) (w : World) : Calls Tryd.prog 45 #[.int .u64 x] w fun e w' => e = .returned (.int .u64 (revB 64 x)) ∧ w = w' := by
  have e : revB 64 x = rb64 x := (rb64_eq x).symm
  have r1 := swpw_u64 x 71777214294589695 8 256 hx (by decide) rfl
  have l1 := swp_lt 64 8 71777214294589695 x (by decide)
  have r2 := swpw_u64 (swp 64 8 71777214294589695 x) 281470681808895 16 65536 l1 (by decide) rfl
  have l2 := swp_lt 64 16 281470681808895 (swp 64 8 71777214294589695 x) (by decide)
  have r3 := halfw_u64 (swp 64 16 281470681808895 (swp 64 8 71777214294589695 x)) 4294967296 32 l2 rfl
  have f : rb64 x = (swp 64 16 281470681808895 (swp 64 8 71777214294589695 x) / 2 ^ 32 ||| swp 64 16 281470681808895 (swp 64 8 71777214294589695 x) * 2 ^ 32 % 2 ^ 64) := rfl
  rw [← f, ← e] at r3
  clear l1 l2 f e
  generalize swp 64 16 281470681808895 (swp 64 8 71777214294589695 x) = y2 at r2 r3
  generalize swp 64 8 71777214294589695 x = y1 at r1 r2
  generalize revB 64 x = z at r3 ⊢
  have R1 : bits .or .u64 (bits .and .u64 ((x : Int) / 256) 71777214294589695) (IntKind.u64.wrap (bits .and .u64 (x : Int) 71777214294589695 * 256)) = (y1 : Int) := r1
  have R2 : bits .or .u64 (bits .and .u64 ((y1 : Int) / 65536) 281470681808895) (IntKind.u64.wrap (bits .and .u64 (y1 : Int) 281470681808895 * 65536)) = (y2 : Int) := r2
  have R3 : bits .or .u64 ((y2 : Int) / 4294967296) (IntKind.u64.wrap ((y2 : Int) * 4294967296)) = (z : Int) := r3
  clear r1 r2 r3
  go_enter Tryd.func45, Tryd.ntmps45
  go_wp2
  go_ret
  exact ⟨rfl, rfl⟩
theorem rev16_parts (x : Nat) (_hx : x < 65536) : (rev 8 (x / 256)) ||| (rev 8 (x % 256) * 256) = rev 16 x := by
  have h := rev_halves 8 x
  rw [show (8 : Nat) + 8 = 16 from rfl, show (2 : Nat) ^ 8 = 256 from rfl] at h
  rw [h, Nat.or_comm]
theorem b_Reverse16 (x : Nat) (hx : x < 65536) (w : World) : Calls Tryd.prog 50 #[.int .u16 x] w fun e w' => e = .returned (.int .u16 (rev 16 x)) ∧ ∃ nq, w' = w.drewN nq := by
  have P := rev16_parts x hx
  have eA := and255_u16 x hx
  have eD : (x : Int) / 256 = ((x / 256 : Nat) : Int) := by simp
  have hl : x % 256 < 256 := by omega
  have hh : x / 256 < 256 := by omega
  have P2 := u16_or_nat (rev 8 (x / 256)) (rev 8 (x % 256) * 256) (by have := rev8_lt (x / 256); omega) (by have := rev8_lt (x % 256); omega)
  rw [P] at P2
  have P3 : bits .or .u16 ((rev 8 (x / 256) : Nat) : Int) (((rev 8 (x % 256) : Nat) : Int) * 256) = ((rev 16 x : Nat) : Int) := P2
  clear P P2
  generalize x % 256 = lo at eA hl P3
  generalize x / 256 = hi at eD hh P3
  generalize rev 16 x = z at P3 ⊢
  have b1 : (lo : Int) ≤ 255 := by omega
  have b2 : (hi : Int) ≤ 255 := by omega
  have e1 := rev8_is lo hl
  have e2 := rev8_is hi hh
  have l1 := rev8_lt lo
  have l2 := rev8_lt hi
  go_enter Tryd.func50, Tryd.ntmps50
  go_wp2
  go_quiet (fail)
  go_wp2
  go_ret
  exact ⟨rfl, nq, rfl⟩
theorem b_Reverse32 (x : Nat) (hx : x < 4294967296) (w : World) : Calls Tryd.prog 42 #[.int .u32 x] w fun e w' => e = .returned (.int .u32 (rev 32 x)) ∧ w = w' := by
  have e : rev 32 x = rv32 x := (rv32_eq x).symm
  have r1 := swpm_u32 x 1431655765 1 2 hx (by decide) rfl
  have l1 := swp_lt 32 1 1431655765 x (by decide)
  have r2 := swpm_u32 _ 858993459 2 4 l1 (by decide) rfl
  have l2 := swp_lt 32 2 858993459 (swp 32 1 1431655765 x) (by decide)
  have r3 := swpm_u32 _ 252645135 4 16 l2 (by decide) rfl
  have l3 := swp_lt 32 4 252645135 (swp 32 2 858993459 (swp 32 1 1431655765 x)) (by decide)
  have f : rv32 x = revB 32 (swp 32 4 252645135 (swp 32 2 858993459 (swp 32 1 1431655765 x))) := rfl
  rw [e, f]
  have c := b_ReverseBytes32 _ l3
  clear e f l1 l2 l3
  generalize swp 32 4 252645135 (swp 32 2 858993459 (swp 32 1 1431655765 x)) = y3 at r3 c ⊢
  generalize swp 32 2 858993459 (swp 32 1 1431655765 x) = y2 at r2 r3
  generalize swp 32 1 1431655765 x = y1 at r1 r2
  have R1 : bits .or .u32 (bits .and .u32 ((x : Int) / 2) 1431655765) (bits .and .u32 (x : Int) 1431655765 * 2 % 4294967296) = (y1 : Int) := r1
  have R2 : bits .or .u32 (bits .and .u32 ((y1 : Int) / 4) 858993459) (bits .and .u32 (y1 : Int) 858993459 * 4 % 4294967296) = (y2 : Int) := r2
  have R3 : bits .or .u32 (bits .and .u32 ((y2 : Int) / 16) 252645135) (bits .and .u32 (y2 : Int) 252645135 * 16 % 4294967296) = (y3 : Int) := r3
  have C := Lib.hid c
  clear r1 r2 r3 c
  go_enter Tryd.func42, Tryd.ntmps42
  go_wp2_with (go_at_call 44; refine (C.out _).mono ?_; rintro e w' ⟨rfl, rfl⟩)
  go_ret
  exact ⟨rfl, rfl⟩
theorem b_Reverse64 (x : Nat) (hx : x < 18446744073709551616) (w : World) : Calls Tryd.prog 43 #[.int .u64 x] w fun e w' => e = .returned (.int .u64 (rev 64 x)) ∧ w = w' := by
  have e : rev 64 x = rv64 x := (rv64_eq x).symm
  have r1 := swpw_u64 x 6148914691236517205 1 2 hx (by decide) rfl
  have l1 := swp_lt 64 1 6148914691236517205 x (by decide)
  have r2 := swpw_u64 _ 3689348814741910323 2 4 l1 (by decide) rfl
  have l2 := swp_lt 64 2 3689348814741910323 (swp 64 1 6148914691236517205 x) (by decide)
  have r3 := swpw_u64 _ 1085102592571150095 4 16 l2 (by decide) rfl
  have l3 := swp_lt 64 4 1085102592571150095 (swp 64 2 3689348814741910323 (swp 64 1 6148914691236517205 x)) (by decide)
  have f : rv64 x = revB 64 (swp 64 4 1085102592571150095 (swp 64 2 3689348814741910323 (swp 64 1 6148914691236517205 x))) := rfl
  rw [e, f]
  have c := b_ReverseBytes64 _ l3
  clear e f l1 l2 l3
  generalize swp 64 4 1085102592571150095 (swp 64 2 3689348814741910323 (swp 64 1 6148914691236517205 x)) = y3 at r3 c ⊢
  generalize swp 64 2 3689348814741910323 (swp 64 1 6148914691236517205 x) = y2 at r2 r3
  generalize swp 64 1 6148914691236517205 x = y1 at r1 r2
  have R1 : bits .or .u64 (bits .and .u64 ((x : Int) / 2) 6148914691236517205) (IntKind.u64.wrap (bits .and .u64 (x : Int) 6148914691236517205 * 2)) = (y1 : Int) := r1
  have R2 : bits .or .u64 (bits .and .u64 ((y1 : Int) / 4) 3689348814741910323) (IntKind.u64.wrap (bits .and .u64 (y1 : Int) 3689348814741910323 * 4)) = (y2 : Int) := r2
  have R3 : bits .or .u64 (bits .and .u64 ((y2 : Int) / 16) 1085102592571150095) (IntKind.u64.wrap (bits .and .u64 (y2 : Int) 1085102592571150095 * 16)) = (y3 : Int) := r3
  have C := Lib.hid c
  clear r1 r2 r3 c
  go_enter Tryd.func43, Tryd.ntmps43
  go_wp2_with (go_at_call 45; refine (C.out _).mono ?_; rintro e w' ⟨rfl, rfl⟩)
  go_ret
  exact ⟨rfl, rfl⟩
theorem b_RotateLeft64 (x : Nat) (k : Int) (hx : x < 18446744073709551616) (w : World) : Calls Tryd.prog 57 #[.int .u64 x, .int .i64 k] w fun e w' => e = .returned (.int .u64 (rotl 64 x (k % 64).toNat)) ∧ w = w' := by
  have hs := rot_and64 k
  have h8 : (k % 64).toNat < 64 := by omega
  generalize (k % 64).toNat = s at hs h8
  go_enter Tryd.func57, Tryd.ntmps57
  go_wp2
  go_ret
  first
    | exact ⟨ret_int (rotm_u64 x s hx h8), rfl⟩
    | exact ⟨ret_int (rotw_u64 x s hx h8), rfl⟩

/-! ### uint is the 64 bit one -/
/-! ### the thin package -/
theorem i_Len8 (x : Nat) (hx : x < 256) (w : World) : Calls Tryd.prog 27 #[.int .u8 x] w fun e w' => e = .returned (.int .i64 (len x)) ∧ w = w' := by
  go_enter Tryd.func27, Tryd.ntmps27
  go_wp2_with (go_at_call 52; refine (b_Len8 x hx _).mono ?_; rintro e w' ⟨rfl, rfl⟩)
  go_ret
  exact ⟨rfl, rfl⟩
theorem i_LeadingZeros8 (x : Nat) (hx : x < 256) (w : World) : Calls Tryd.prog 28 #[.int .u8 x] w fun e w' => e = .returned (.int .i64 (8 - (len x : Int))) ∧ w = w' := by
  go_enter Tryd.func28, Tryd.ntmps28
  go_wp2_with (go_at_call 53; refine (b_LeadingZeros8 x hx _).mono ?_; rintro e w' ⟨rfl, rfl⟩)
  go_ret
  exact ⟨rfl, rfl⟩
theorem i_OnesCount8 (x : Nat) (hx : x < 256) (w : World) : Calls Tryd.prog 21 #[.int .u8 x] w fun e w' => e = .returned (.int .i64 (pc 8 x)) ∧ w = w' := by
  go_enter Tryd.func21, Tryd.ntmps21
  go_wp2_with (go_at_call 46; refine (b_OnesCount8 x hx _).mono ?_; rintro e w' ⟨rfl, rfl⟩)
  go_ret
  first
    | exact ⟨rfl, rfl⟩
    | exact ⟨rfl, _, rfl⟩
theorem i_Reverse8 (x : Nat) (hx : x < 256) (w : World) : Calls Tryd.prog 30 #[.int .u8 x] w fun e w' => e = .returned (.int .u8 (rev 8 x)) ∧ w = w' := by
  go_enter Tryd.func30, Tryd.ntmps30
  go_wp2_with (go_at_call 55; refine (b_Reverse8 x hx _).mono ?_; rintro e w' ⟨rfl, rfl⟩)
  go_ret
  first
    | exact ⟨rfl, rfl⟩
    | exact ⟨rfl, _, rfl⟩
theorem i_Len16 (x : Nat) (hx : x < 65536) (w : World) : Calls Tryd.prog 22 #[.int .u16 x] w fun e w' => e = .returned (.int .i64 (len x)) ∧ w = w' := by
  go_enter Tryd.func22, Tryd.ntmps22
  go_wp2_with (go_at_call 47; refine (b_Len16 x hx _).mono ?_; rintro e w' ⟨rfl, rfl⟩)
  go_ret
  exact ⟨rfl, rfl⟩
theorem i_LeadingZeros16 (x : Nat) (hx : x < 65536) (w : World) : Calls Tryd.prog 23 #[.int .u16 x] w fun e w' => e = .returned (.int .i64 (16 - (len x : Int))) ∧ w = w' := by
  go_enter Tryd.func23, Tryd.ntmps23
  go_wp2_with (go_at_call 48; refine (b_LeadingZeros16 x hx _).mono ?_; rintro e w' ⟨rfl, rfl⟩)
  go_ret
  exact ⟨rfl, rfl⟩
theorem i_OnesCount16 (x : Nat) (hx : x < 65536) (w : World) : Calls Tryd.prog 10 #[.int .u16 x] w fun e w' => e = .returned (.int .i64 (pc 16 x)) ∧ ∃ nq, w' = w.drewN nq := by
  go_enter Tryd.func10, Tryd.ntmps10
  go_wp2_with (go_at_call 35; refine (b_OnesCount16 x hx _).mono ?_; rintro e w' ⟨rfl, nq, rfl⟩)
  go_ret
  first
    | exact ⟨rfl, rfl⟩
    | exact ⟨rfl, _, rfl⟩
theorem i_Reverse16 (x : Nat) (hx : x < 65536) (w : World) : Calls Tryd.prog 25 #[.int .u16 x] w fun e w' => e = .returned (.int .u16 (rev 16 x)) ∧ ∃ nq, w' = w.drewN nq := by
  go_enter Tryd.func25, Tryd.ntmps25
  go_wp2_with (go_at_call 50; refine (b_Reverse16 x hx _).mono ?_; rintro e w' ⟨rfl, nq, rfl⟩)
  go_ret
  first
    | exact ⟨rfl, rfl⟩
    | exact ⟨rfl, _, rfl⟩
theorem i_ReverseBytes16 (x : Nat) (hx : x < 65536) (w : World) : Calls Tryd.prog 26 #[.int .u16 x] w fun e w' => e = .returned (.int .u16 (revB 16 x)) ∧ w = w' := by
  go_enter Tryd.func26, Tryd.ntmps26
  go_wp2_with (go_at_call 51; refine (b_ReverseBytes16 x hx _).mono ?_; rintro e w' ⟨rfl, rfl⟩)
  go_ret
  exact ⟨rfl, rfl⟩
theorem i_Len32 (x : Nat) (hx : x < 4294967296) (w : World) : Calls Tryd.prog 11 #[.int .u32 x] w fun e w' => e = .returned (.int .i64 (len x)) ∧ w = w' := by
  go_enter Tryd.func11, Tryd.ntmps11
  go_wp2_with (go_at_call 36; refine (b_Len32 x hx _).mono ?_; rintro e w' ⟨rfl, rfl⟩)
  go_ret
  exact ⟨rfl, rfl⟩
theorem i_LeadingZeros32 (x : Nat) (hx : x < 4294967296) (w : World) : Calls Tryd.prog 13 #[.int .u32 x] w fun e w' => e = .returned (.int .i64 (32 - (len x : Int))) ∧ w = w' := by
  go_enter Tryd.func13, Tryd.ntmps13
  go_wp2_with (go_at_call 38; refine (b_LeadingZeros32 x hx _).mono ?_; rintro e w' ⟨rfl, rfl⟩)
  go_ret
  exact ⟨rfl, rfl⟩
theorem i_OnesCount32 (x : Nat) (hx : x < 4294967296) (w : World) : Calls Tryd.prog 8 #[.int .u32 x] w fun e w' => e = .returned (.int .i64 (pc 32 x)) ∧ ∃ nq, w' = w.drewN nq := by
  go_enter Tryd.func8, Tryd.ntmps8
  go_wp2_with (go_at_call 33; refine (b_OnesCount32 x hx _).mono ?_; rintro e w' ⟨rfl, nq, rfl⟩)
  go_ret
  first
    | exact ⟨rfl, rfl⟩
    | exact ⟨rfl, _, rfl⟩
theorem i_Reverse32 (x : Nat) (hx : x < 4294967296) (w : World) : Calls Tryd.prog 17 #[.int .u32 x] w fun e w' => e = .returned (.int .u32 (rev 32 x)) ∧ w = w' := by
  go_enter Tryd.func17, Tryd.ntmps17
  go_wp2_with (go_at_call 42; refine (b_Reverse32 x hx _).mono ?_; rintro e w' ⟨rfl, rfl⟩)
  go_ret
  first
    | exact ⟨rfl, rfl⟩
    | exact ⟨rfl, _, rfl⟩
theorem i_ReverseBytes32 (x : Nat) (hx : x < 4294967296) (w : World) : Calls Tryd.prog 19 #[.int .u32 x] w fun e w' => e = .returned (.int .u32 (revB 32 x)) ∧ w = w' := by
  go_enter Tryd.func19, Tryd.ntmps19
  go_wp2_with (go_at_call 44; refine (b_ReverseBytes32 x hx _).mono ?_; rintro e w' ⟨rfl, rfl⟩)
  go_ret
  exact ⟨rfl, rfl⟩
theorem i_Len64 (x : Nat) (hx : x < 18446744073709551616) (w : World) : Calls Tryd.prog 12 #[.int .u64 x] w fun e w' => e = .returned (.int .i64 (len x)) ∧ w = w' := by
  go_enter Tryd.func12, Tryd.ntmps12
  go_wp2_with (go_at_call 37; refine (b_Len64 x hx _).mono ?_; rintro e w' ⟨rfl, rfl⟩)
  go_ret
  exact ⟨rfl, rfl⟩
theorem i_LeadingZeros64 (x : Nat) (hx : x < 18446744073709551616) (w : World) : Calls Tryd.prog 14 #[.int .u64 x] w fun e w' => e = .returned (.int .i64 (64 - (len x : Int))) ∧ w = w' := by
  go_enter Tryd.func14, Tryd.ntmps14
  go_wp2_with (go_at_call 39; refine (b_LeadingZeros64 x hx _).mono ?_; rintro e w' ⟨rfl, rfl⟩)
  go_ret
  exact ⟨rfl, rfl⟩
theorem i_OnesCount64 (x : Nat) (hx : x < 18446744073709551616) (w : World) : Calls Tryd.prog 9 #[.int .u64 x] w fun e w' => e = .returned (.int .i64 (pc 64 x)) ∧ w = w' := by
  go_enter Tryd.func9, Tryd.ntmps9
  go_wp2_with (go_at_call 34; refine (b_OnesCount64 x hx _).mono ?_; rintro e w' ⟨rfl, rfl⟩)
  go_ret
  first
    | exact ⟨rfl, rfl⟩
    | exact ⟨rfl, _, rfl⟩
theorem i_Reverse64 (x : Nat) (hx : x < 18446744073709551616) (w : World) : Calls Tryd.prog 18 #[.int .u64 x] w fun e w' => e = .returned (.int .u64 (rev 64 x)) ∧ w = w' := by
  go_enter Tryd.func18, Tryd.ntmps18
  go_wp2_with (go_at_call 43; refine (b_Reverse64 x hx _).mono ?_; rintro e w' ⟨rfl, rfl⟩)
  go_ret
  first
    | exact ⟨rfl, rfl⟩
    | exact ⟨rfl, _, rfl⟩
theorem i_ReverseBytes64 (x : Nat) (hx : x < 18446744073709551616) (w : World) : Calls Tryd.prog 20 #[.int .u64 x] w fun e w' => e = .returned (.int .u64 (revB 64 x)) ∧ w = w' := by
  go_enter Tryd.func20, Tryd.ntmps20
  go_wp2_with (go_at_call 45; refine (b_ReverseBytes64 x hx _).mono ?_; rintro e w' ⟨rfl, rfl⟩)
  go_ret
  exact ⟨rfl, rfl⟩
theorem i_RotateLeft64 (x : Nat) (k : Int) (hx : x < 18446744073709551616) (w : World) : Calls Tryd.prog 32 #[.int .u64 x, .int .i64 k] w fun e w' => e = .returned (.int .u64 (rotl 64 x (k % 64).toNat)) ∧ w = w' := by
  go_enter Tryd.func32, Tryd.ntmps32
  go_wp2_with (go_at_call 57; refine (b_RotateLeft64 x k hx _).mono ?_; rintro e w' ⟨rfl, rfl⟩)
  go_ret
  exact ⟨rfl, rfl⟩
theorem i_OnesCount8_max (w : World) : Calls Tryd.prog 21 #[.int .u8 255] w fun e w' => e = .returned (.int .i64 8) ∧ w = w' := by
  have h := i_OnesCount8 255 (by decide) w
  rw [show pc 8 255 = 8 from pc_ones 8] at h
  exact h
theorem i_OnesCount8_zero (w : World) : Calls Tryd.prog 21 #[.int .u8 0] w fun e w' => e = .returned (.int .i64 0) ∧ w = w' := by
  have h := i_OnesCount8 0 (by decide) w
  rw [pc_zero] at h
  exact h
theorem enters_OnesCount8 (args : Array Value) (w : World) : (callFunc 21 args).run Tryd.prog w = .ok (.enter 21 args) w := by go_simp
theorem i_Len8_max (w : World) : Calls Tryd.prog 27 #[.int .u8 255] w fun e w' => e = .returned (.int .i64 8) ∧ w = w' := by
  have h := i_Len8 255 (by decide) w
  rw [show len 255 = 8 from len_eq 255 8 (lenIs_ones 8)] at h
  exact h
theorem enters_Reverse8 (args : Array Value) (w : World) : (callFunc 30 args).run Tryd.prog w = .ok (.enter 30 args) w := by go_simp
theorem i_OnesCount16_max (w : World) : Calls Tryd.prog 10 #[.int .u16 65535] w fun e w' => e = .returned (.int .i64 16) ∧ ∃ nq, w' = w.drewN nq := by
  have h := i_OnesCount16 65535 (by decide) w
  rw [show pc 16 65535 = 16 from pc_ones 16] at h
  exact h
theorem i_OnesCount16_zero (w : World) : Calls Tryd.prog 10 #[.int .u16 0] w fun e w' => e = .returned (.int .i64 0) ∧ ∃ nq, w' = w.drewN nq := by
  have h := i_OnesCount16 0 (by decide) w
  rw [pc_zero] at h
  exact h
theorem enters_OnesCount16 (args : Array Value) (w : World) : (callFunc 10 args).run Tryd.prog w = .ok (.enter 10 args) w := by go_simp
theorem i_Len16_max (w : World) : Calls Tryd.prog 22 #[.int .u16 65535] w fun e w' => e = .returned (.int .i64 16) ∧ w = w' := by
  have h := i_Len16 65535 (by decide) w
  rw [show len 65535 = 16 from len_eq 65535 16 (lenIs_ones 16)] at h
  exact h
theorem enters_Reverse16 (args : Array Value) (w : World) : (callFunc 25 args).run Tryd.prog w = .ok (.enter 25 args) w := by go_simp
theorem i_OnesCount32_max (w : World) : Calls Tryd.prog 8 #[.int .u32 4294967295] w fun e w' => e = .returned (.int .i64 32) ∧ ∃ nq, w' = w.drewN nq := by
  have h := i_OnesCount32 4294967295 (by decide) w
  rw [show pc 32 4294967295 = 32 from pc_ones 32] at h
  exact h
theorem i_OnesCount32_zero (w : World) : Calls Tryd.prog 8 #[.int .u32 0] w fun e w' => e = .returned (.int .i64 0) ∧ ∃ nq, w' = w.drewN nq := by
  have h := i_OnesCount32 0 (by decide) w
  rw [pc_zero] at h
  exact h
theorem enters_OnesCount32 (args : Array Value) (w : World) : (callFunc 8 args).run Tryd.prog w = .ok (.enter 8 args) w := by go_simp
theorem i_Len32_max (w : World) : Calls Tryd.prog 11 #[.int .u32 4294967295] w fun e w' => e = .returned (.int .i64 32) ∧ w = w' := by
  have h := i_Len32 4294967295 (by decide) w
  rw [show len 4294967295 = 32 from len_eq 4294967295 32 (lenIs_ones 32)] at h
  exact h
theorem enters_Reverse32 (args : Array Value) (w : World) : (callFunc 17 args).run Tryd.prog w = .ok (.enter 17 args) w := by go_simp
theorem i_OnesCount64_max (w : World) : Calls Tryd.prog 9 #[.int .u64 18446744073709551615] w fun e w' => e = .returned (.int .i64 64) ∧ w = w' := by
  have h := i_OnesCount64 18446744073709551615 (by decide) w
  rw [show pc 64 18446744073709551615 = 64 from pc_ones 64] at h
  exact h
theorem i_OnesCount64_zero (w : World) : Calls Tryd.prog 9 #[.int .u64 0] w fun e w' => e = .returned (.int .i64 0) ∧ w = w' := by
  have h := i_OnesCount64 0 (by decide) w
  rw [pc_zero] at h
  exact h
theorem enters_OnesCount64 (args : Array Value) (w : World) : (callFunc 9 args).run Tryd.prog w = .ok (.enter 9 args) w := by go_simp
theorem i_Len64_max (w : World) : Calls Tryd.prog 12 #[.int .u64 18446744073709551615] w fun e w' => e = .returned (.int .i64 64) ∧ w = w' := by
  have h := i_Len64 18446744073709551615 (by decide) w
  rw [show len 18446744073709551615 = 64 from len_eq 18446744073709551615 64 (lenIs_ones 64)] at h
  exact h
theorem enters_Reverse64 (args : Array Value) (w : World) : (callFunc 18 args).run Tryd.prog w = .ok (.enter 18 args) w := by go_simp
theorem enters_RotateLeft64 (args : Array Value) (w : World) : (callFunc 32 args).run Tryd.prog w = .ok (.enter 32 args) w := by go_simp
end Go.Proofs.YthknhfekfieedaaDoor
