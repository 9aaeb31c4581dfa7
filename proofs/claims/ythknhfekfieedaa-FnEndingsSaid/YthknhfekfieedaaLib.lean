/-
  Contracts of math/bits (Go's library) and of the thin package over it: what each function returns, for every argument; the world is as it was.
-/
import Derived.Test.YthknhfekfieedaaProg
import Derived.Test.YthknhfekfieedaaBits
import Derived.WalkKit
import Derived.WalkLawsBesides
import Derived.Outline
import Derived.Deep.QuietTactic
import Derived.BigQuiet
namespace Go.Proofs.Ythknhfekfieedaa
open Go.RowKit Go.Lathe

set_option maxRecDepth 100000 in
theorem b_Len64_ttt (x y1 y2 y3 : Nat) (w : World) (_hx : x < 18446744073709551616) (_g1 : (4294967296 : Int) ≤ (x : Int)) (_e1 : (x : Int) / 4294967296 = (y1 : Int)) (_g2 : (65536 : Int) ≤ (y1 : Int)) (_e2 : (y1 : Int) / 65536 = (y2 : Int)) (_g3 : (256 : Int) ≤ (y2 : Int)) (_e3 : (y2 : Int) / 256 = (y3 : Int)) (hz : y3 < 256) : Calls Try.prog 19 #[.int .u64 x] w fun e w' => e = .returned (.int .i64 ((56 + len y3 : Nat) : Int)) ∧ w = w' := by
  have b : (y3 : Int) ≤ 255 := by omega
  have e8 := len8_is y3 hz
  have lb : len y3 ≤ 8 := len_le 8 y3 hz
  go_enter Try.func19, Try.ntmps19
  go_wp2
  go_ret
  exact ⟨ret_int (by omega), rfl⟩
set_option maxRecDepth 100000 in
theorem b_Len64_ttf (x y1 y2 : Nat) (w : World) (_hx : x < 18446744073709551616) (_g1 : (4294967296 : Int) ≤ (x : Int)) (_e1 : (x : Int) / 4294967296 = (y1 : Int)) (_g2 : (65536 : Int) ≤ (y1 : Int)) (_e2 : (y1 : Int) / 65536 = (y2 : Int)) (_g3 : decide ((256 : Int) ≤ (y2 : Int)) = false) (hz : y2 < 256) : Calls Try.prog 19 #[.int .u64 x] w fun e w' => e = .returned (.int .i64 ((48 + len y2 : Nat) : Int)) ∧ w = w' := by
  have b : (y2 : Int) ≤ 255 := by omega
  have e8 := len8_is y2 hz
  have lb : len y2 ≤ 8 := len_le 8 y2 hz
  go_enter Try.func19, Try.ntmps19
  go_wp2
  go_ret
  exact ⟨ret_int (by omega), rfl⟩
set_option maxRecDepth 100000 in
theorem b_Len64_tft (x y1 y3 : Nat) (w : World) (_hx : x < 18446744073709551616) (_g1 : (4294967296 : Int) ≤ (x : Int)) (_e1 : (x : Int) / 4294967296 = (y1 : Int)) (_g2 : decide ((65536 : Int) ≤ (y1 : Int)) = false) (_g3 : (256 : Int) ≤ (y1 : Int)) (_e3 : (y1 : Int) / 256 = (y3 : Int)) (hz : y3 < 256) : Calls Try.prog 19 #[.int .u64 x] w fun e w' => e = .returned (.int .i64 ((40 + len y3 : Nat) : Int)) ∧ w = w' := by
  have b : (y3 : Int) ≤ 255 := by omega
  have e8 := len8_is y3 hz
  have lb : len y3 ≤ 8 := len_le 8 y3 hz
  go_enter Try.func19, Try.ntmps19
  go_wp2
  go_ret
  exact ⟨ret_int (by omega), rfl⟩
set_option maxRecDepth 100000 in
theorem b_Len64_tff (x y1 : Nat) (w : World) (_hx : x < 18446744073709551616) (_g1 : (4294967296 : Int) ≤ (x : Int)) (_e1 : (x : Int) / 4294967296 = (y1 : Int)) (_g2 : decide ((65536 : Int) ≤ (y1 : Int)) = false) (_g3 : decide ((256 : Int) ≤ (y1 : Int)) = false) (hz : y1 < 256) : Calls Try.prog 19 #[.int .u64 x] w fun e w' => e = .returned (.int .i64 ((32 + len y1 : Nat) : Int)) ∧ w = w' := by
  have b : (y1 : Int) ≤ 255 := by omega
  have e8 := len8_is y1 hz
  have lb : len y1 ≤ 8 := len_le 8 y1 hz
  go_enter Try.func19, Try.ntmps19
  go_wp2
  go_ret
  exact ⟨ret_int (by omega), rfl⟩
set_option maxRecDepth 100000 in
theorem b_Len64_ftt (x y2 y3 : Nat) (w : World) (_hx : x < 18446744073709551616) (_g1 : decide ((4294967296 : Int) ≤ (x : Int)) = false) (_g2 : (65536 : Int) ≤ (x : Int)) (_e2 : (x : Int) / 65536 = (y2 : Int)) (_g3 : (256 : Int) ≤ (y2 : Int)) (_e3 : (y2 : Int) / 256 = (y3 : Int)) (hz : y3 < 256) : Calls Try.prog 19 #[.int .u64 x] w fun e w' => e = .returned (.int .i64 ((24 + len y3 : Nat) : Int)) ∧ w = w' := by
  have b : (y3 : Int) ≤ 255 := by omega
  have e8 := len8_is y3 hz
  have lb : len y3 ≤ 8 := len_le 8 y3 hz
  go_enter Try.func19, Try.ntmps19
  go_wp2
  go_ret
  exact ⟨ret_int (by omega), rfl⟩
set_option maxRecDepth 100000 in
theorem b_Len64_ftf (x y2 : Nat) (w : World) (_hx : x < 18446744073709551616) (_g1 : decide ((4294967296 : Int) ≤ (x : Int)) = false) (_g2 : (65536 : Int) ≤ (x : Int)) (_e2 : (x : Int) / 65536 = (y2 : Int)) (_g3 : decide ((256 : Int) ≤ (y2 : Int)) = false) (hz : y2 < 256) : Calls Try.prog 19 #[.int .u64 x] w fun e w' => e = .returned (.int .i64 ((16 + len y2 : Nat) : Int)) ∧ w = w' := by
  have b : (y2 : Int) ≤ 255 := by omega
  have e8 := len8_is y2 hz
  have lb : len y2 ≤ 8 := len_le 8 y2 hz
  go_enter Try.func19, Try.ntmps19
  go_wp2
  go_ret
  exact ⟨ret_int (by omega), rfl⟩
set_option maxRecDepth 100000 in
theorem b_Len64_fft (x y3 : Nat) (w : World) (_hx : x < 18446744073709551616) (_g1 : decide ((4294967296 : Int) ≤ (x : Int)) = false) (_g2 : decide ((65536 : Int) ≤ (x : Int)) = false) (_g3 : (256 : Int) ≤ (x : Int)) (_e3 : (x : Int) / 256 = (y3 : Int)) (hz : y3 < 256) : Calls Try.prog 19 #[.int .u64 x] w fun e w' => e = .returned (.int .i64 ((8 + len y3 : Nat) : Int)) ∧ w = w' := by
  have b : (y3 : Int) ≤ 255 := by omega
  have e8 := len8_is y3 hz
  have lb : len y3 ≤ 8 := len_le 8 y3 hz
  go_enter Try.func19, Try.ntmps19
  go_wp2
  go_ret
  exact ⟨ret_int (by omega), rfl⟩
set_option maxRecDepth 100000 in
theorem b_Len64_fff (x : Nat) (w : World) (_hx : x < 18446744073709551616) (_g1 : decide ((4294967296 : Int) ≤ (x : Int)) = false) (_g2 : decide ((65536 : Int) ≤ (x : Int)) = false) (_g3 : decide ((256 : Int) ≤ (x : Int)) = false) (hz : x < 256) : Calls Try.prog 19 #[.int .u64 x] w fun e w' => e = .returned (.int .i64 ((0 + len x : Nat) : Int)) ∧ w = w' := by
  have b : (x : Int) ≤ 255 := by omega
  have e8 := len8_is x hz
  have lb : len x ≤ 8 := len_le 8 x hz
  go_enter Try.func19, Try.ntmps19
  go_wp2
  go_ret
  exact ⟨ret_int (by omega), rfl⟩
theorem b_Len64 (x : Nat) (hx : x < 18446744073709551616) (w : World) : Calls Try.prog 19 #[.int .u64 x] w fun e w' => e = .returned (.int .i64 (len x)) ∧ w = w' := by
  by_cases h0 : 4294967296 ≤ x
  · by_cases h1 : 65536 ≤ x / 4294967296
    · by_cases h2 : 256 ≤ x / 4294967296 / 65536
      · have L : len x = 56 + len (x / 4294967296 / 65536 / 256) := by rw [len_shift 32 (x) h0, show (2 : Nat) ^ 32 = 4294967296 from rfl, len_shift 16 (x / 4294967296) h1, show (2 : Nat) ^ 16 = 65536 from rfl, len_shift 8 (x / 4294967296 / 65536) h2, show (2 : Nat) ^ 8 = 256 from rfl]; omega
        rw [L]
        exact b_Len64_ttt x (x / 4294967296) (x / 4294967296 / 65536) (x / 4294967296 / 65536 / 256) w hx (by omega) (by omega) (by omega) (by omega) (by omega) (by omega) (by omega)
      · have L : len x = 48 + len (x / 4294967296 / 65536) := by rw [len_shift 32 (x) h0, show (2 : Nat) ^ 32 = 4294967296 from rfl, len_shift 16 (x / 4294967296) h1, show (2 : Nat) ^ 16 = 65536 from rfl]; omega
        rw [L]
        exact b_Len64_ttf x (x / 4294967296) (x / 4294967296 / 65536) w hx (by omega) (by omega) (by omega) (by omega) (by simp; omega) (by omega)
    · by_cases h2 : 256 ≤ x / 4294967296
      · have L : len x = 40 + len (x / 4294967296 / 256) := by rw [len_shift 32 (x) h0, show (2 : Nat) ^ 32 = 4294967296 from rfl, len_shift 8 (x / 4294967296) h2, show (2 : Nat) ^ 8 = 256 from rfl]; omega
        rw [L]
        exact b_Len64_tft x (x / 4294967296) (x / 4294967296 / 256) w hx (by omega) (by omega) (by simp; omega) (by omega) (by omega) (by omega)
      · have L : len x = 32 + len (x / 4294967296) := by rw [len_shift 32 (x) h0, show (2 : Nat) ^ 32 = 4294967296 from rfl]
        rw [L]
        exact b_Len64_tff x (x / 4294967296) w hx (by omega) (by omega) (by simp; omega) (by simp; omega) (by omega)
  · by_cases h1 : 65536 ≤ x
    · by_cases h2 : 256 ≤ x / 65536
      · have L : len x = 24 + len (x / 65536 / 256) := by rw [len_shift 16 (x) h1, show (2 : Nat) ^ 16 = 65536 from rfl, len_shift 8 (x / 65536) h2, show (2 : Nat) ^ 8 = 256 from rfl]; omega
        rw [L]
        exact b_Len64_ftt x (x / 65536) (x / 65536 / 256) w hx (by simp; omega) (by omega) (by omega) (by omega) (by omega) (by omega)
      · have L : len x = 16 + len (x / 65536) := by rw [len_shift 16 (x) h1, show (2 : Nat) ^ 16 = 65536 from rfl]
        rw [L]
        exact b_Len64_ftf x (x / 65536) w hx (by simp; omega) (by omega) (by omega) (by simp; omega) (by omega)
    · by_cases h2 : 256 ≤ x
      · have L : len x = 8 + len (x / 256) := by rw [len_shift 8 (x) h2, show (2 : Nat) ^ 8 = 256 from rfl]
        rw [L]
        exact b_Len64_fft x (x / 256) w hx (by simp; omega) (by simp; omega) (by omega) (by omega) (by omega)
      · have L : len x = 0 + len x := by omega
        rw [L]
        exact b_Len64_fff x  w hx (by simp; omega) (by simp; omega) (by simp; omega) (by omega)
theorem oc_walk (x y1 y2 z z4 z5 z6 r : Nat) (w : World)
    (_R1 : IntKind.u64.wrap (bits .and .u64 ((x : Int) / 2) 6148914691236517205 + bits .and .u64 (x : Int) 6148914691236517205) = (y1 : Int))
    (_r2 : IntKind.u64.wrap (bits .and .u64 ((y1 : Int) / 4) 3689348814741910323 + bits .and .u64 (y1 : Int) 3689348814741910323) = (y2 : Int))
    (_r3 : bits .and .u64 (IntKind.u64.wrap ((y2 : Int) / 16 + (y2 : Int))) 1085102592571150095 = (z : Int))
    (_r4 : IntKind.u64.wrap ((z : Int) + (z : Int) / 256) = (z4 : Int))
    (_r5 : IntKind.u64.wrap ((z4 : Int) + (z4 : Int) / 65536) = (z5 : Int))
    (_r6 : IntKind.u64.wrap ((z5 : Int) + (z5 : Int) / 4294967296) = (z6 : Int))
    (_r7 : bits .and .i64 (wrap64 (z6 : Int)) 127 = (r : Int)) :
    Calls Try.prog 18 #[.int .u64 x] w fun e w' => e = .returned (.int .i64 r) ∧ w = w' := by
  go_enter Try.func18, Try.ntmps18
  go_wp2
  go_ret
  exact ⟨rfl, rfl⟩
theorem b_OnesCount64 (x : Nat) (hx : x < 18446744073709551616) (w : World) : Calls Try.prog 18 #[.int .u64 x] w fun e w' => e = .returned (.int .i64 (pc 64 x)) ∧ w = w' := by
  obtain ⟨l1, l2, l3, _, _⟩ := oc_steps x hx
  have R1 : IntKind.u64.wrap (bits .and .u64 ((x : Int) / 2) 6148914691236517205 + bits .and .u64 (x : Int) 6148914691236517205) = ((oc1 x : Nat) : Int) := by
    have a := u64_and_nat (x / 2) 6148914691236517205 (by omega) (by decide)
    have b := u64_and_nat x 6148914691236517205 hx (by decide)
    have a' : bits .and .u64 ((x : Int) / 2) 6148914691236517205 = ((x / 2 &&& 6148914691236517205 : Nat) : Int) := a
    have b' : bits .and .u64 (x : Int) 6148914691236517205 = ((x &&& 6148914691236517205 : Nat) : Int) := b
    rw [a', b', wrapw_u64]
    unfold oc1 at l1 ⊢
    omega
  have R2 : ∀ y : Nat, y < 18446744073709551616 → oc2 y < 18446744073709551616 → IntKind.u64.wrap (bits .and .u64 ((y : Int) / 4) 3689348814741910323 + bits .and .u64 (y : Int) 3689348814741910323) = ((oc2 y : Nat) : Int) := by
    intro y hy l
    have a := u64_and_nat (y / 4) 3689348814741910323 (by omega) (by decide)
    have b := u64_and_nat y 3689348814741910323 hy (by decide)
    have a' : bits .and .u64 ((y : Int) / 4) 3689348814741910323 = ((y / 4 &&& 3689348814741910323 : Nat) : Int) := a
    have b' : bits .and .u64 (y : Int) 3689348814741910323 = ((y &&& 3689348814741910323 : Nat) : Int) := b
    rw [a', b', wrapw_u64]
    unfold oc2 at l ⊢
    omega
  have R3 : ∀ y : Nat, y / 16 + y < 18446744073709551616 → bits .and .u64 (IntKind.u64.wrap ((y : Int) / 16 + (y : Int))) 1085102592571150095 = ((oc3 y : Nat) : Int) := by
    intro y l
    have e : IntKind.u64.wrap ((y : Int) / 16 + (y : Int)) = ((y / 16 + y : Nat) : Int) := by rw [wrapw_u64]; omega
    rw [e]
    exact u64_and_nat (y / 16 + y) 1085102592571150095 l (by decide)
  have r2 := R2 (oc1 x) l1 l2
  have r3 := R3 (oc2 (oc1 x)) l3
  obtain ⟨f1, f2⟩ := oc_last x hx _ rfl
  clear R2 R3
  generalize oc3 (oc2 (oc1 x)) = z at r3 f1 f2
  generalize oc2 (oc1 x) = y2 at r2 r3 l2 l3
  generalize oc1 x = y1 at R1 r2 l1 l2
  have r4 : IntKind.u64.wrap ((z : Int) + (z : Int) / 256) = ((z + z / 256 : Nat) : Int) := by rw [wrapw_u64]; omega
  generalize z + z / 256 = z4 at r4 f1 f2
  have r5 : IntKind.u64.wrap ((z4 : Int) + (z4 : Int) / 65536) = ((z4 + z4 / 65536 : Nat) : Int) := by rw [wrapw_u64]; omega
  generalize z4 + z4 / 65536 = z5 at r5 f1 f2
  have r6 : IntKind.u64.wrap ((z5 : Int) + (z5 : Int) / 4294967296) = ((z5 + z5 / 4294967296 : Nat) : Int) := by rw [wrapw_u64]; omega
  generalize z5 + z5 / 4294967296 = z6 at r6 f1 f2
  have r7 : bits .and .i64 (wrap64 (z6 : Int)) 127 = ((z6 % 128 : Nat) : Int) := by rw [← IntWalk.i64_left]; exact and127_wrap z6 f2
  rw [← f1]
  exact oc_walk x y1 y2 z z4 z5 z6 (z6 % 128) w R1 r2 r3 r4 r5 r6 r7
theorem b_ReverseBytes16 (x : Nat) (hx : x < 65536) (w : World) : Calls Try.prog 17 #[.int .u16 x] w fun e w' => e = .returned (.int .u16 (revB 16 x)) ∧ w = w' := by
  have r := halfw_u16 x 256 8 hx rfl
  rw [rb16_eq x hx] at r
  have R : bits .or .u16 ((x : Int) / 256) (IntKind.u16.wrap ((x : Int) * 256)) = ((revB 16 x : Nat) : Int) := r
  clear r
  go_enter Try.func17, Try.ntmps17
  go_wp2
  go_ret
  exact ⟨rfl, rfl⟩
theorem b_ReverseBytes32 (x : Nat) (hx : x < 4294967296) (w : World) : Calls Try.prog 16 #[.int .u32 x] w fun e w' => e = .returned (.int .u32 (revB 32 x)) ∧ w = w' := by
  have e : revB 32 x = rb32 x := (rb32_eq x).symm
  have r1 := swpm_u32 x 16711935 8 256 hx (by decide) rfl
  have l1 := swp_lt 32 8 16711935 x (by decide)
  have r2 := halfm_u32 (swp 32 8 16711935 x) 65536 16 l1 rfl
  have f : rb32 x = (swp 32 8 16711935 x / 2 ^ 16 ||| swp 32 8 16711935 x * 2 ^ 16 % 2 ^ 32) := rfl
  rw [← f, ← e] at r2
  have R1 : bits .or .u32 (bits .and .u32 ((x : Int) / 256) 16711935) (bits .and .u32 (x : Int) 16711935 * 256 % 4294967296) = ((swp 32 8 16711935 x : Nat) : Int) := r1
  have R2 : bits .or .u32 ((swp 32 8 16711935 x : Nat) / 65536 : Int) ((swp 32 8 16711935 x : Nat) * 65536 % 4294967296 : Int) = ((revB 32 x : Nat) : Int) := r2
  clear r1 r2 l1 f e
  generalize swp 32 8 16711935 x = y at R1 R2
  generalize revB 32 x = z at R2 ⊢
  go_enter Try.func16, Try.ntmps16
  go_wp2
  go_ret
  exact ⟨rfl, rfl⟩
theorem b_ReverseBytes64 (x : Nat) (hx : x < 18446744073709551616) (w : World) : Calls Try.prog 15 #[.int .u64 x] w fun e w' => e = .returned (.int .u64 (revB 64 x)) ∧ w = w' := by
  have e : revB 64 x = rb64 x := (rb64_eq x).symm
  have r1 := swpw_u64 x 71777214294589695 8 256 hx (by decide) rfl
  have l1 := swp_lt 64 8 71777214294589695 x (by decide)
  have r2 := swpw_u64 (swp 64 8 71777214294589695 x) 281470681808895 16 65536 l1 (by decide) rfl
  have l2 := swp_lt 64 16 281470681808895 (swp 64 8 71777214294589695 x) (by decide)
  have r3 := halfw_u64 (swp 64 16 281470681808895 (swp 64 8 71777214294589695 x)) 4294967296 32 l2 rfl
  have f : rb64 x = (swp 64 16 281470681808895 (swp 64 8 71777214294589695 x) / 2 ^ 32 ||| swp 64 16 281470681808895 (swp 64 8 71777214294589695 x) * 2 ^ 32 % 2 ^ 64) := rfl
  rw [← f, ← e] at r3
  clear l1 l2 f e
  generalize swp 64 16 281470681808895 (swp 64 8 71777214294589695 x) = y2 at r2 r3
  generalize swp 64 8 71777214294589695 x = y1 at r1 r2
  generalize revB 64 x = z at r3 ⊢
  have R1 : bits .or .u64 (bits .and .u64 ((x : Int) / 256) 71777214294589695) (IntKind.u64.wrap (bits .and .u64 (x : Int) 71777214294589695 * 256)) = (y1 : Int) := r1
  have R2 : bits .or .u64 (bits .and .u64 ((y1 : Int) / 65536) 281470681808895) (IntKind.u64.wrap (bits .and .u64 (y1 : Int) 281470681808895 * 65536)) = (y2 : Int) := r2
  have R3 : bits .or .u64 ((y2 : Int) / 4294967296) (IntKind.u64.wrap ((y2 : Int) * 4294967296)) = (z : Int) := r3
  clear r1 r2 r3
  go_enter Try.func15, Try.ntmps15
  go_wp2
  go_ret
  exact ⟨rfl, rfl⟩
theorem b_Reverse64 (x : Nat) (hx : x < 18446744073709551616) (w : World) : Calls Try.prog 20 #[.int .u64 x] w fun e w' => e = .returned (.int .u64 (rev 64 x)) ∧ w = w' := by
  have e : rev 64 x = rv64 x := (rv64_eq x).symm
  have r1 := swpw_u64 x 6148914691236517205 1 2 hx (by decide) rfl
  have l1 := swp_lt 64 1 6148914691236517205 x (by decide)
  have r2 := swpw_u64 _ 3689348814741910323 2 4 l1 (by decide) rfl
  have l2 := swp_lt 64 2 3689348814741910323 (swp 64 1 6148914691236517205 x) (by decide)
  have r3 := swpw_u64 _ 1085102592571150095 4 16 l2 (by decide) rfl
  have l3 := swp_lt 64 4 1085102592571150095 (swp 64 2 3689348814741910323 (swp 64 1 6148914691236517205 x)) (by decide)
  have f : rv64 x = revB 64 (swp 64 4 1085102592571150095 (swp 64 2 3689348814741910323 (swp 64 1 6148914691236517205 x))) := rfl
  rw [e, f]
  have c := b_ReverseBytes64 _ l3
  clear e f l1 l2 l3
  generalize swp 64 4 1085102592571150095 (swp 64 2 3689348814741910323 (swp 64 1 6148914691236517205 x)) = y3 at r3 c ⊢
  generalize swp 64 2 3689348814741910323 (swp 64 1 6148914691236517205 x) = y2 at r2 r3
  generalize swp 64 1 6148914691236517205 x = y1 at r1 r2
  have R1 : bits .or .u64 (bits .and .u64 ((x : Int) / 2) 6148914691236517205) (IntKind.u64.wrap (bits .and .u64 (x : Int) 6148914691236517205 * 2)) = (y1 : Int) := r1
  have R2 : bits .or .u64 (bits .and .u64 ((y1 : Int) / 4) 3689348814741910323) (IntKind.u64.wrap (bits .and .u64 (y1 : Int) 3689348814741910323 * 4)) = (y2 : Int) := r2
  have R3 : bits .or .u64 (bits .and .u64 ((y2 : Int) / 16) 1085102592571150095) (IntKind.u64.wrap (bits .and .u64 (y2 : Int) 1085102592571150095 * 16)) = (y3 : Int) := r3
  have C := Lib.hid c
  clear r1 r2 r3 c
  go_enter Try.func20, Try.ntmps20
  go_wp2_with (go_at_call 15; refine (C.out _).mono ?_; rintro e w' ⟨rfl, rfl⟩)
  go_ret
  exact ⟨rfl, rfl⟩

/-! ### uint is the 64 bit one -/
/-! ### the thin package -/
theorem i_ReverseBytes16 (x : Nat) (hx : x < 65536) (w : World) : Calls Try.prog 11 #[.int .u16 x] w fun e w' => e = .returned (.int .u16 (revB 16 x)) ∧ w = w' := by
  go_enter Try.func11, Try.ntmps11
  go_wp2_with (go_at_call 17; refine (b_ReverseBytes16 x hx _).mono ?_; rintro e w' ⟨rfl, rfl⟩)
  go_ret
  exact ⟨rfl, rfl⟩
theorem i_ReverseBytes32 (x : Nat) (hx : x < 4294967296) (w : World) : Calls Try.prog 10 #[.int .u32 x] w fun e w' => e = .returned (.int .u32 (revB 32 x)) ∧ w = w' := by
  go_enter Try.func10, Try.ntmps10
  go_wp2_with (go_at_call 16; refine (b_ReverseBytes32 x hx _).mono ?_; rintro e w' ⟨rfl, rfl⟩)
  go_ret
  exact ⟨rfl, rfl⟩
theorem i_Len64 (x : Nat) (hx : x < 18446744073709551616) (w : World) : Calls Try.prog 13 #[.int .u64 x] w fun e w' => e = .returned (.int .i64 (len x)) ∧ w = w' := by
  go_enter Try.func13, Try.ntmps13
  go_wp2_with (go_at_call 19; refine (b_Len64 x hx _).mono ?_; rintro e w' ⟨rfl, rfl⟩)
  go_ret
  exact ⟨rfl, rfl⟩
theorem i_OnesCount64 (x : Nat) (hx : x < 18446744073709551616) (w : World) : Calls Try.prog 12 #[.int .u64 x] w fun e w' => e = .returned (.int .i64 (pc 64 x)) ∧ w = w' := by
  go_enter Try.func12, Try.ntmps12
  go_wp2_with (go_at_call 18; refine (b_OnesCount64 x hx _).mono ?_; rintro e w' ⟨rfl, rfl⟩)
  go_ret
  first
    | exact ⟨rfl, rfl⟩
    | exact ⟨rfl, _, rfl⟩
theorem i_Reverse64 (x : Nat) (hx : x < 18446744073709551616) (w : World) : Calls Try.prog 14 #[.int .u64 x] w fun e w' => e = .returned (.int .u64 (rev 64 x)) ∧ w = w' := by
  go_enter Try.func14, Try.ntmps14
  go_wp2_with (go_at_call 20; refine (b_Reverse64 x hx _).mono ?_; rintro e w' ⟨rfl, rfl⟩)
  go_ret
  first
    | exact ⟨rfl, rfl⟩
    | exact ⟨rfl, _, rfl⟩
theorem i_ReverseBytes64 (x : Nat) (hx : x < 18446744073709551616) (w : World) : Calls Try.prog 9 #[.int .u64 x] w fun e w' => e = .returned (.int .u64 (revB 64 x)) ∧ w = w' := by
  go_enter Try.func9, Try.ntmps9
  go_wp2_with (go_at_call 15; refine (b_ReverseBytes64 x hx _).mono ?_; rintro e w' ⟨rfl, rfl⟩)
  go_ret
  exact ⟨rfl, rfl⟩
theorem i_OnesCount64_max (w : World) : Calls Try.prog 12 #[.int .u64 18446744073709551615] w fun e w' => e = .returned (.int .i64 64) ∧ w = w' := by
  have h := i_OnesCount64 18446744073709551615 (by decide) w
  rw [show pc 64 18446744073709551615 = 64 from pc_ones 64] at h
  exact h
theorem i_OnesCount64_zero (w : World) : Calls Try.prog 12 #[.int .u64 0] w fun e w' => e = .returned (.int .i64 0) ∧ w = w' := by
  have h := i_OnesCount64 0 (by decide) w
  rw [pc_zero] at h
  exact h
theorem enters_OnesCount64 (args : Array Value) (w : World) : (callFunc 12 args).run Try.prog w = .ok (.enter 12 args) w := by go_simp
theorem i_Len64_max (w : World) : Calls Try.prog 13 #[.int .u64 18446744073709551615] w fun e w' => e = .returned (.int .i64 64) ∧ w = w' := by
  have h := i_Len64 18446744073709551615 (by decide) w
  rw [show len 18446744073709551615 = 64 from len_eq 18446744073709551615 64 (lenIs_ones 64)] at h
  exact h
theorem enters_Reverse64 (args : Array Value) (w : World) : (callFunc 14 args).run Try.prog w = .ok (.enter 14 args) w := by go_simp
end Go.Proofs.Ythknhfekfieedaa
