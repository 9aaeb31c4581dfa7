/-
  Contracts of math/bits (Go's library) and of the thin package over it: what each function returns, for every argument; the world is as it was.
-/
import Derived.Test.YtfeahfdepikodaaProg
import Derived.Test.YtfeahfdepikodaaBits
import Derived.WalkKit
import Derived.WalkLawsBesides
import Derived.Outline
import Derived.Deep.QuietTactic
import Derived.BigQuiet
namespace Go.Proofs.Ytfeahfdepikodaa
open Go.RowKit Go.Lathe

theorem b_Reverse8 (x : Nat) (hx : x < 256) (w : World) : Calls Try.prog 38 #[.int .u8 x] w fun e w' => e = .returned (.int .u8 (rev 8 x)) ∧ w = w' := by
  have h1 : (x : Int) ≤ 255 := by omega
  have e := rev8_is x hx
  go_enter Try.func38, Try.ntmps38
  go_wp2
  go_ret
  exact ⟨rfl, rfl⟩
set_option maxRecDepth 100000 in
theorem b_Len32_tt (x y1 y2 : Nat) (w : World) (_hx : x < 4294967296) (_g1 : (65536 : Int) ≤ (x : Int)) (_e1 : (x : Int) / 65536 = (y1 : Int)) (_g2 : (256 : Int) ≤ (y1 : Int)) (_e2 : (y1 : Int) / 256 = (y2 : Int)) (hz : y2 < 256) : Calls Try.prog 34 #[.int .u32 x] w fun e w' => e = .returned (.int .i64 ((24 + len y2 : Nat) : Int)) ∧ w = w' := by
  have b : (y2 : Int) ≤ 255 := by omega
  have e8 := len8_is y2 hz
  have lb : len y2 ≤ 8 := len_le 8 y2 hz
  go_enter Try.func34, Try.ntmps34
  go_wp2
  go_ret
  exact ⟨ret_int (by omega), rfl⟩
set_option maxRecDepth 100000 in
theorem b_Len32_tf (x y1 : Nat) (w : World) (_hx : x < 4294967296) (_g1 : (65536 : Int) ≤ (x : Int)) (_e1 : (x : Int) / 65536 = (y1 : Int)) (_g2 : decide ((256 : Int) ≤ (y1 : Int)) = false) (hz : y1 < 256) : Calls Try.prog 34 #[.int .u32 x] w fun e w' => e = .returned (.int .i64 ((16 + len y1 : Nat) : Int)) ∧ w = w' := by
  have b : (y1 : Int) ≤ 255 := by omega
  have e8 := len8_is y1 hz
  have lb : len y1 ≤ 8 := len_le 8 y1 hz
  go_enter Try.func34, Try.ntmps34
  go_wp2
  go_ret
  exact ⟨ret_int (by omega), rfl⟩
set_option maxRecDepth 100000 in
theorem b_Len32_ft (x y2 : Nat) (w : World) (_hx : x < 4294967296) (_g1 : decide ((65536 : Int) ≤ (x : Int)) = false) (_g2 : (256 : Int) ≤ (x : Int)) (_e2 : (x : Int) / 256 = (y2 : Int)) (hz : y2 < 256) : Calls Try.prog 34 #[.int .u32 x] w fun e w' => e = .returned (.int .i64 ((8 + len y2 : Nat) : Int)) ∧ w = w' := by
  have b : (y2 : Int) ≤ 255 := by omega
  have e8 := len8_is y2 hz
  have lb : len y2 ≤ 8 := len_le 8 y2 hz
  go_enter Try.func34, Try.ntmps34
  go_wp2
  go_ret
  exact ⟨ret_int (by omega), rfl⟩
set_option maxRecDepth 100000 in
theorem b_Len32_ff (x : Nat) (w : World) (_hx : x < 4294967296) (_g1 : decide ((65536 : Int) ≤ (x : Int)) = false) (_g2 : decide ((256 : Int) ≤ (x : Int)) = false) (hz : x < 256) : Calls Try.prog 34 #[.int .u32 x] w fun e w' => e = .returned (.int .i64 ((0 + len x : Nat) : Int)) ∧ w = w' := by
  have b : (x : Int) ≤ 255 := by omega
  have e8 := len8_is x hz
  have lb : len x ≤ 8 := len_le 8 x hz
  go_enter Try.func34, Try.ntmps34
  go_wp2
  go_ret
  exact ⟨ret_int (by omega), rfl⟩
theorem b_Len32 (x : Nat) (hx : x < 4294967296) (w : World) : Calls Try.prog 34 #[.int .u32 x] w fun e w' => e = .returned (.int .i64 (len x)) ∧ w = w' := by
  by_cases h0 : 65536 ≤ x
  · by_cases h1 : 256 ≤ x / 65536
    · have L : len x = 24 + len (x / 65536 / 256) := by rw [len_shift 16 (x) h0, show (2 : Nat) ^ 16 = 65536 from rfl, len_shift 8 (x / 65536) h1, show (2 : Nat) ^ 8 = 256 from rfl]; omega
      rw [L]
      exact b_Len32_tt x (x / 65536) (x / 65536 / 256) w hx (by omega) (by omega) (by omega) (by omega) (by omega)
    · have L : len x = 16 + len (x / 65536) := by rw [len_shift 16 (x) h0, show (2 : Nat) ^ 16 = 65536 from rfl]
      rw [L]
      exact b_Len32_tf x (x / 65536) w hx (by omega) (by omega) (by simp; omega) (by omega)
  · by_cases h1 : 256 ≤ x
    · have L : len x = 8 + len (x / 256) := by rw [len_shift 8 (x) h1, show (2 : Nat) ^ 8 = 256 from rfl]
      rw [L]
      exact b_Len32_ft x (x / 256) w hx (by simp; omega) (by omega) (by omega) (by omega)
    · have L : len x = 0 + len x := by omega
      rw [L]
      exact b_Len32_ff x  w hx (by simp; omega) (by simp; omega) (by omega)
theorem b_LeadingZeros32 (x : Nat) (hx : x < 4294967296) (w : World) : Calls Try.prog 36 #[.int .u32 x] w fun e w' => e = .returned (.int .i64 (32 - (len x : Int))) ∧ w = w' := by
  have hb : len x ≤ 32 := len_le 32 x hx
  go_enter Try.func36, Try.ntmps36
  go_wp2_with (go_at_call 34; refine (b_Len32 x hx _).mono ?_; rintro e w' ⟨rfl, rfl⟩)
  go_ret
  exact ⟨rfl, rfl⟩
theorem b_OnesCount32 (x : Nat) (hx : x < 4294967296) (w : World) : Calls Try.prog 28 #[.int .u32 x] w fun e w' => e = .returned (.int .i64 (pc 32 x)) ∧ ∃ nq, w' = w.drewN nq := by
  have P : pc 32 x = pc 8 (x % 256) + pc 8 (x / 256 % 256) + pc 8 (x / 65536 % 256) + pc 8 (x / 16777216) := by
    have h1 := pc_add 8 24 x
    have h2 := pc_add 8 16 (x / 256)
    have h3 := pc_add 8 8 (x / 65536)
    have m1 := pc_mod 8 x
    have m2 := pc_mod 8 (x / 256)
    have m3 := pc_mod 8 (x / 65536)
    rw [show (2 : Nat) ^ 8 = 256 from rfl] at h1 h2 h3 m1 m2 m3
    rw [Nat.div_div_eq_div_mul] at h2 h3
    simp only [Nat.reduceMul, Nat.reduceAdd] at h1 h2 h3
    omega
  have eA := and255_u32 x hx
  have eB := and255_u32 (x / 256) (by omega)
  have eC := and255_u32 (x / 65536) (by omega)
  have eD : (x : Int) / 16777216 = ((x / 16777216 : Nat) : Int) := by simp
  have eE : (x : Int) / 65536 = ((x / 65536 : Nat) : Int) := by simp
  have eF : (x : Int) / 256 = ((x / 256 : Nat) : Int) := by simp
  have ha : x % 256 < 256 := by omega
  have hb : x / 256 % 256 < 256 := by omega
  have hc : x / 65536 % 256 < 256 := by omega
  have hd : x / 16777216 < 256 := by omega
  have hp : x / 65536 < 65536 := by omega
  have hq : x / 256 < 16777216 := by omega
  rw [P]
  clear P
  generalize x % 256 = a at eA ha ⊢
  generalize x / 256 % 256 = b at eB hb ⊢
  generalize x / 65536 % 256 = c at eC hc ⊢
  generalize x / 16777216 = d at eD hd ⊢
  generalize x / 65536 = p at eC eE hp
  generalize x / 256 = q at eB eF hq
  have b1 : (a : Int) ≤ 255 := by omega
  have b2 : (b : Int) ≤ 255 := by omega
  have b3 : (c : Int) ≤ 255 := by omega
  have b4 : (d : Int) ≤ 255 := by omega
  have e1 := pop8_is a ha
  have e2 := pop8_is b hb
  have e3 := pop8_is c hc
  have e4 := pop8_is d hd
  have l1 := pc_le 8 a
  have l2 := pc_le 8 b
  have l3 := pc_le 8 c
  have l4 := pc_le 8 d
  go_enter Try.func28, Try.ntmps28
  go_wp2
  go_quiet (fail)
  go_wp2
  go_ret
  exact ⟨ret_int (by omega), nq, rfl⟩
theorem b_ReverseBytes32 (x : Nat) (hx : x < 4294967296) (w : World) : Calls Try.prog 30 #[.int .u32 x] w fun e w' => e = .returned (.int .u32 (revB 32 x)) ∧ w = w' := by
  have e : revB 32 x = rb32 x := (rb32_eq x).symm
  have r1 := swpm_u32 x 16711935 8 256 hx (by decide) rfl
  have l1 := swp_lt 32 8 16711935 x (by decide)
  have r2 := halfm_u32 (swp 32 8 16711935 x) 65536 16 l1 rfl
  have f : rb32 x = (swp 32 8 16711935 x / 2 ^ 16 ||| swp 32 8 16711935 x * 2 ^ 16 % 2 ^ 32) := rfl
  rw [← f, ← e] at r2
  have R1 : bits .or .u32 (bits .and .u32 ((x : Int) / 256) 16711935) (bits .and .u32 (x : Int) 16711935 * 256 % 4294967296) = ((swp 32 8 16711935 x : Nat) : Int) := r1
  have R2 : bits .or .u32 ((swp 32 8 16711935 x : Nat) / 65536 : Int) ((swp 32 8 16711935 x : Nat) * 65536 % 4294967296 : Int) = ((revB 32 x : Nat) : Int) := r2
  clear r1 r2 l1 f e
  generalize swp 32 8 16711935 x = y at R1 R2
  generalize revB 32 x = z at R2 ⊢
  go_enter Try.func30, Try.ntmps30
  go_wp2
  go_ret
  exact ⟨rfl, rfl⟩
theorem b_Reverse32 (x : Nat) (hx : x < 4294967296) (w : World) : Calls Try.prog 37 #[.int .u32 x] w fun e w' => e = .returned (.int .u32 (rev 32 x)) ∧ w = w' := by
  have e : rev 32 x = rv32 x := (rv32_eq x).symm
  have r1 := swpm_u32 x 1431655765 1 2 hx (by decide) rfl
  have l1 := swp_lt 32 1 1431655765 x (by decide)
  have r2 := swpm_u32 _ 858993459 2 4 l1 (by decide) rfl
  have l2 := swp_lt 32 2 858993459 (swp 32 1 1431655765 x) (by decide)
  have r3 := swpm_u32 _ 252645135 4 16 l2 (by decide) rfl
  have l3 := swp_lt 32 4 252645135 (swp 32 2 858993459 (swp 32 1 1431655765 x)) (by decide)
  have f : rv32 x = revB 32 (swp 32 4 252645135 (swp 32 2 858993459 (swp 32 1 1431655765 x))) := rfl
  rw [e, f]
  have c := b_ReverseBytes32 _ l3
  clear e f l1 l2 l3
  generalize swp 32 4 252645135 (swp 32 2 858993459 (swp 32 1 1431655765 x)) = y3 at r3 c ⊢
  generalize swp 32 2 858993459 (swp 32 1 1431655765 x) = y2 at r2 r3
  generalize swp 32 1 1431655765 x = y1 at r1 r2
  have R1 : bits .or .u32 (bits .and .u32 ((x : Int) / 2) 1431655765) (bits .and .u32 (x : Int) 1431655765 * 2 % 4294967296) = (y1 : Int) := r1
  have R2 : bits .or .u32 (bits .and .u32 ((y1 : Int) / 4) 858993459) (bits .and .u32 (y1 : Int) 858993459 * 4 % 4294967296) = (y2 : Int) := r2
  have R3 : bits .or .u32 (bits .and .u32 ((y2 : Int) / 16) 252645135) (bits .and .u32 (y2 : Int) 252645135 * 16 % 4294967296) = (y3 : Int) := r3
  have C := Lib.hid c
  clear r1 r2 r3 c
  go_enter Try.func37, Try.ntmps37
  go_wp2_with (go_at_call 30; refine (C.out _).mono ?_; rintro e w' ⟨rfl, rfl⟩)
  go_ret
  exact ⟨rfl, rfl⟩
theorem b_RotateLeft32 (x : Nat) (k : Int) (hx : x < 4294967296) (w : World) : Calls Try.prog 32 #[.int .u32 x, .int .i64 k] w fun e w' => e = .returned (.int .u32 (rotl 32 x (k % 32).toNat)) ∧ w = w' := by
  have hs := rot_and32 k
  have h8 : (k % 32).toNat < 32 := by omega
  generalize (k % 32).toNat = s at hs h8
  go_enter Try.func32, Try.ntmps32
  go_wp2
  go_ret
  first
    | exact ⟨ret_int (rotm_u32 x s hx h8), rfl⟩
    | exact ⟨ret_int (rotw_u32 x s hx h8), rfl⟩

/-! ### uint is the 64 bit one -/
/-! ### the thin package -/
theorem i_Reverse8 (x : Nat) (hx : x < 256) (w : World) : Calls Try.prog 27 #[.int .u8 x] w fun e w' => e = .returned (.int .u8 (rev 8 x)) ∧ w = w' := by
  go_enter Try.func27, Try.ntmps27
  go_wp2_with (go_at_call 38; refine (b_Reverse8 x hx _).mono ?_; rintro e w' ⟨rfl, rfl⟩)
  go_ret
  first
    | exact ⟨rfl, rfl⟩
    | exact ⟨rfl, _, rfl⟩
theorem i_Len32 (x : Nat) (hx : x < 4294967296) (w : World) : Calls Try.prog 21 #[.int .u32 x] w fun e w' => e = .returned (.int .i64 (len x)) ∧ w = w' := by
  go_enter Try.func21, Try.ntmps21
  go_wp2_with (go_at_call 34; refine (b_Len32 x hx _).mono ?_; rintro e w' ⟨rfl, rfl⟩)
  go_ret
  exact ⟨rfl, rfl⟩
theorem i_LeadingZeros32 (x : Nat) (hx : x < 4294967296) (w : World) : Calls Try.prog 23 #[.int .u32 x] w fun e w' => e = .returned (.int .i64 (32 - (len x : Int))) ∧ w = w' := by
  go_enter Try.func23, Try.ntmps23
  go_wp2_with (go_at_call 36; refine (b_LeadingZeros32 x hx _).mono ?_; rintro e w' ⟨rfl, rfl⟩)
  go_ret
  exact ⟨rfl, rfl⟩
theorem i_OnesCount32 (x : Nat) (hx : x < 4294967296) (w : World) : Calls Try.prog 15 #[.int .u32 x] w fun e w' => e = .returned (.int .i64 (pc 32 x)) ∧ ∃ nq, w' = w.drewN nq := by
  go_enter Try.func15, Try.ntmps15
  go_wp2_with (go_at_call 28; refine (b_OnesCount32 x hx _).mono ?_; rintro e w' ⟨rfl, nq, rfl⟩)
  go_ret
  first
    | exact ⟨rfl, rfl⟩
    | exact ⟨rfl, _, rfl⟩
theorem i_Reverse32 (x : Nat) (hx : x < 4294967296) (w : World) : Calls Try.prog 25 #[.int .u32 x] w fun e w' => e = .returned (.int .u32 (rev 32 x)) ∧ w = w' := by
  go_enter Try.func25, Try.ntmps25
  go_wp2_with (go_at_call 37; refine (b_Reverse32 x hx _).mono ?_; rintro e w' ⟨rfl, rfl⟩)
  go_ret
  first
    | exact ⟨rfl, rfl⟩
    | exact ⟨rfl, _, rfl⟩
theorem i_ReverseBytes32 (x : Nat) (hx : x < 4294967296) (w : World) : Calls Try.prog 17 #[.int .u32 x] w fun e w' => e = .returned (.int .u32 (revB 32 x)) ∧ w = w' := by
  go_enter Try.func17, Try.ntmps17
  go_wp2_with (go_at_call 30; refine (b_ReverseBytes32 x hx _).mono ?_; rintro e w' ⟨rfl, rfl⟩)
  go_ret
  exact ⟨rfl, rfl⟩
theorem i_RotateLeft32 (x : Nat) (k : Int) (hx : x < 4294967296) (w : World) : Calls Try.prog 19 #[.int .u32 x, .int .i64 k] w fun e w' => e = .returned (.int .u32 (rotl 32 x (k % 32).toNat)) ∧ w = w' := by
  go_enter Try.func19, Try.ntmps19
  go_wp2_with (go_at_call 32; refine (b_RotateLeft32 x k hx _).mono ?_; rintro e w' ⟨rfl, rfl⟩)
  go_ret
  exact ⟨rfl, rfl⟩
theorem enters_Reverse8 (args : Array Value) (w : World) : (callFunc 27 args).run Try.prog w = .ok (.enter 27 args) w := by go_simp
theorem i_OnesCount32_max (w : World) : Calls Try.prog 15 #[.int .u32 4294967295] w fun e w' => e = .returned (.int .i64 32) ∧ ∃ nq, w' = w.drewN nq := by
  have h := i_OnesCount32 4294967295 (by decide) w
  rw [show pc 32 4294967295 = 32 from pc_ones 32] at h
  exact h
theorem i_OnesCount32_zero (w : World) : Calls Try.prog 15 #[.int .u32 0] w fun e w' => e = .returned (.int .i64 0) ∧ ∃ nq, w' = w.drewN nq := by
  have h := i_OnesCount32 0 (by decide) w
  rw [pc_zero] at h
  exact h
theorem enters_OnesCount32 (args : Array Value) (w : World) : (callFunc 15 args).run Try.prog w = .ok (.enter 15 args) w := by go_simp
theorem i_Len32_max (w : World) : Calls Try.prog 21 #[.int .u32 4294967295] w fun e w' => e = .returned (.int .i64 32) ∧ w = w' := by
  have h := i_Len32 4294967295 (by decide) w
  rw [show len 4294967295 = 32 from len_eq 4294967295 32 (lenIs_ones 32)] at h
  exact h
theorem enters_Reverse32 (args : Array Value) (w : World) : (callFunc 25 args).run Try.prog w = .ok (.enter 25 args) w := by go_simp
theorem enters_RotateLeft32 (args : Array Value) (w : World) : (callFunc 19 args).run Try.prog w = .ok (.enter 19 args) w := by go_simp
end Go.Proofs.Ytfeahfdepikodaa
