/-
  Contracts of math/bits (Go's library) and of the thin package over it: what each function returns, for every argument; the world is as it was.
-/
import Derived.Test.YtlfgeloaeglmlaaProg
import Derived.Test.YtlfgeloaeglmlaaBits
import Derived.WalkKit
import Derived.WalkLawsBesides
import Derived.Outline
import Derived.Deep.QuietTactic
import Derived.BigQuiet
namespace Go.Proofs.Ytlfgeloaeglmlaa
open Go.RowKit Go.Lathe

theorem b_Reverse8 (x : Nat) (hx : x < 256) (w : World) : Calls Try.prog 38 #[.int .u8 x] w fun e w' => e = .returned (.int .u8 (rev 8 x)) ∧ w = w' := by
  have h1 : (x : Int) ≤ 255 := by omega
  have e := rev8_is x hx
  go_enter Try.func38, Try.ntmps38
  go_wp2
  go_ret
  exact ⟨rfl, rfl⟩
set_option maxRecDepth 100000 in
theorem b_Len16_t (x y1 : Nat) (w : World) (_hx : x < 65536) (_g1 : (256 : Int) ≤ (x : Int)) (_e1 : (x : Int) / 256 = (y1 : Int)) (hz : y1 < 256) : Calls Try.prog 35 #[.int .u16 x] w fun e w' => e = .returned (.int .i64 ((8 + len y1 : Nat) : Int)) ∧ w = w' := by
  have b : (y1 : Int) ≤ 255 := by omega
  have e8 := len8_is y1 hz
  have lb : len y1 ≤ 8 := len_le 8 y1 hz
  go_enter Try.func35, Try.ntmps35
  go_wp2
  go_ret
  exact ⟨ret_int (by omega), rfl⟩
set_option maxRecDepth 100000 in
theorem b_Len16_f (x : Nat) (w : World) (_hx : x < 65536) (_g1 : decide ((256 : Int) ≤ (x : Int)) = false) (hz : x < 256) : Calls Try.prog 35 #[.int .u16 x] w fun e w' => e = .returned (.int .i64 ((0 + len x : Nat) : Int)) ∧ w = w' := by
  have b : (x : Int) ≤ 255 := by omega
  have e8 := len8_is x hz
  have lb : len x ≤ 8 := len_le 8 x hz
  go_enter Try.func35, Try.ntmps35
  go_wp2
  go_ret
  exact ⟨ret_int (by omega), rfl⟩
theorem b_Len16 (x : Nat) (hx : x < 65536) (w : World) : Calls Try.prog 35 #[.int .u16 x] w fun e w' => e = .returned (.int .i64 (len x)) ∧ w = w' := by
  by_cases h0 : 256 ≤ x
  · have L : len x = 8 + len (x / 256) := by rw [len_shift 8 (x) h0, show (2 : Nat) ^ 8 = 256 from rfl]
    rw [L]
    exact b_Len16_t x (x / 256) w hx (by omega) (by omega) (by omega)
  · have L : len x = 0 + len x := by omega
    rw [L]
    exact b_Len16_f x  w hx (by simp; omega) (by omega)
theorem b_LeadingZeros16 (x : Nat) (hx : x < 65536) (w : World) : Calls Try.prog 37 #[.int .u16 x] w fun e w' => e = .returned (.int .i64 (16 - (len x : Int))) ∧ w = w' := by
  have hb : len x ≤ 16 := len_le 16 x hx
  go_enter Try.func37, Try.ntmps37
  go_wp2_with (go_at_call 35; refine (b_Len16 x hx _).mono ?_; rintro e w' ⟨rfl, rfl⟩)
  go_ret
  exact ⟨rfl, rfl⟩
theorem b_OnesCount16 (x : Nat) (hx : x < 65536) (w : World) : Calls Try.prog 28 #[.int .u16 x] w fun e w' => e = .returned (.int .i64 (pc 16 x)) ∧ ∃ nq, w' = w.drewN nq := by
  have P : pc 16 x = pc 8 (x % 256) + pc 8 (x / 256) := by
    have h1 := pc_add 8 8 x
    have h2 := pc_mod 8 x
    rw [show (2 : Nat) ^ 8 = 256 from rfl] at h1 h2
    simp only [Nat.reduceAdd] at h1
    omega
  have eA := and255_u16 x hx
  have eD : (x : Int) / 256 = ((x / 256 : Nat) : Int) := by simp
  have hl : x % 256 < 256 := by omega
  have hh : x / 256 < 256 := by omega
  rw [P]
  clear P
  generalize x % 256 = lo at eA hl ⊢
  generalize x / 256 = hi at eD hh ⊢
  have b1 : (lo : Int) ≤ 255 := by omega
  have b2 : (hi : Int) ≤ 255 := by omega
  have e1 := pop8_is lo hl
  have e2 := pop8_is hi hh
  have l1 := pc_le 8 lo
  have l2 := pc_le 8 hi
  go_enter Try.func28, Try.ntmps28
  go_wp2
  go_quiet (fail)
  go_wp2
  go_ret
  exact ⟨ret_int (by omega), nq, rfl⟩
theorem b_ReverseBytes16 (x : Nat) (hx : x < 65536) (w : World) : Calls Try.prog 32 #[.int .u16 x] w fun e w' => e = .returned (.int .u16 (revB 16 x)) ∧ w = w' := by
  have r := halfw_u16 x 256 8 hx rfl
  rw [rb16_eq x hx] at r
  have R : bits .or .u16 ((x : Int) / 256) (IntKind.u16.wrap ((x : Int) * 256)) = ((revB 16 x : Nat) : Int) := r
  clear r
  go_enter Try.func32, Try.ntmps32
  go_wp2
  go_ret
  exact ⟨rfl, rfl⟩
theorem rev16_parts (x : Nat) (_hx : x < 65536) : (rev 8 (x / 256)) ||| (rev 8 (x % 256) * 256) = rev 16 x := by
  have h := rev_halves 8 x
  rw [show (8 : Nat) + 8 = 16 from rfl, show (2 : Nat) ^ 8 = 256 from rfl] at h
  rw [h, Nat.or_comm]
theorem b_Reverse16 (x : Nat) (hx : x < 65536) (w : World) : Calls Try.prog 30 #[.int .u16 x] w fun e w' => e = .returned (.int .u16 (rev 16 x)) ∧ ∃ nq, w' = w.drewN nq := by
  have P := rev16_parts x hx
  have eA := and255_u16 x hx
  have eD : (x : Int) / 256 = ((x / 256 : Nat) : Int) := by simp
  have hl : x % 256 < 256 := by omega
  have hh : x / 256 < 256 := by omega
  have P2 := u16_or_nat (rev 8 (x / 256)) (rev 8 (x % 256) * 256) (by have := rev8_lt (x / 256); omega) (by have := rev8_lt (x % 256); omega)
  rw [P] at P2
  have P3 : bits .or .u16 ((rev 8 (x / 256) : Nat) : Int) (((rev 8 (x % 256) : Nat) : Int) * 256) = ((rev 16 x : Nat) : Int) := P2
  clear P P2
  generalize x % 256 = lo at eA hl P3
  generalize x / 256 = hi at eD hh P3
  generalize rev 16 x = z at P3 ⊢
  have b1 : (lo : Int) ≤ 255 := by omega
  have b2 : (hi : Int) ≤ 255 := by omega
  have e1 := rev8_is lo hl
  have e2 := rev8_is hi hh
  have l1 := rev8_lt lo
  have l2 := rev8_lt hi
  go_enter Try.func30, Try.ntmps30
  go_wp2
  go_quiet (fail)
  go_wp2
  go_ret
  exact ⟨rfl, nq, rfl⟩
theorem b_RotateLeft16 (x : Nat) (k : Int) (hx : x < 65536) (w : World) : Calls Try.prog 33 #[.int .u16 x, .int .i64 k] w fun e w' => e = .returned (.int .u16 (rotl 16 x (k % 16).toNat)) ∧ w = w' := by
  have hs := rot_and16 k
  have h8 : (k % 16).toNat < 16 := by omega
  generalize (k % 16).toNat = s at hs h8
  go_enter Try.func33, Try.ntmps33
  go_wp2
  go_ret
  first
    | exact ⟨ret_int (rotm_u16 x s hx h8), rfl⟩
    | exact ⟨ret_int (rotw_u16 x s hx h8), rfl⟩

/-! ### uint is the 64 bit one -/
/-! ### the thin package -/
theorem i_Reverse8 (x : Nat) (hx : x < 256) (w : World) : Calls Try.prog 27 #[.int .u8 x] w fun e w' => e = .returned (.int .u8 (rev 8 x)) ∧ w = w' := by
  go_enter Try.func27, Try.ntmps27
  go_wp2_with (go_at_call 38; refine (b_Reverse8 x hx _).mono ?_; rintro e w' ⟨rfl, rfl⟩)
  go_ret
  first
    | exact ⟨rfl, rfl⟩
    | exact ⟨rfl, _, rfl⟩
theorem i_Len16 (x : Nat) (hx : x < 65536) (w : World) : Calls Try.prog 23 #[.int .u16 x] w fun e w' => e = .returned (.int .i64 (len x)) ∧ w = w' := by
  go_enter Try.func23, Try.ntmps23
  go_wp2_with (go_at_call 35; refine (b_Len16 x hx _).mono ?_; rintro e w' ⟨rfl, rfl⟩)
  go_ret
  exact ⟨rfl, rfl⟩
theorem i_LeadingZeros16 (x : Nat) (hx : x < 65536) (w : World) : Calls Try.prog 25 #[.int .u16 x] w fun e w' => e = .returned (.int .i64 (16 - (len x : Int))) ∧ w = w' := by
  go_enter Try.func25, Try.ntmps25
  go_wp2_with (go_at_call 37; refine (b_LeadingZeros16 x hx _).mono ?_; rintro e w' ⟨rfl, rfl⟩)
  go_ret
  exact ⟨rfl, rfl⟩
theorem i_OnesCount16 (x : Nat) (hx : x < 65536) (w : World) : Calls Try.prog 15 #[.int .u16 x] w fun e w' => e = .returned (.int .i64 (pc 16 x)) ∧ ∃ nq, w' = w.drewN nq := by
  go_enter Try.func15, Try.ntmps15
  go_wp2_with (go_at_call 28; refine (b_OnesCount16 x hx _).mono ?_; rintro e w' ⟨rfl, nq, rfl⟩)
  go_ret
  first
    | exact ⟨rfl, rfl⟩
    | exact ⟨rfl, _, rfl⟩
theorem i_Reverse16 (x : Nat) (hx : x < 65536) (w : World) : Calls Try.prog 17 #[.int .u16 x] w fun e w' => e = .returned (.int .u16 (rev 16 x)) ∧ ∃ nq, w' = w.drewN nq := by
  go_enter Try.func17, Try.ntmps17
  go_wp2_with (go_at_call 30; refine (b_Reverse16 x hx _).mono ?_; rintro e w' ⟨rfl, nq, rfl⟩)
  go_ret
  first
    | exact ⟨rfl, rfl⟩
    | exact ⟨rfl, _, rfl⟩
theorem i_ReverseBytes16 (x : Nat) (hx : x < 65536) (w : World) : Calls Try.prog 19 #[.int .u16 x] w fun e w' => e = .returned (.int .u16 (revB 16 x)) ∧ w = w' := by
  go_enter Try.func19, Try.ntmps19
  go_wp2_with (go_at_call 32; refine (b_ReverseBytes16 x hx _).mono ?_; rintro e w' ⟨rfl, rfl⟩)
  go_ret
  exact ⟨rfl, rfl⟩
theorem i_RotateLeft16 (x : Nat) (k : Int) (hx : x < 65536) (w : World) : Calls Try.prog 21 #[.int .u16 x, .int .i64 k] w fun e w' => e = .returned (.int .u16 (rotl 16 x (k % 16).toNat)) ∧ w = w' := by
  go_enter Try.func21, Try.ntmps21
  go_wp2_with (go_at_call 33; refine (b_RotateLeft16 x k hx _).mono ?_; rintro e w' ⟨rfl, rfl⟩)
  go_ret
  exact ⟨rfl, rfl⟩
theorem enters_Reverse8 (args : Array Value) (w : World) : (callFunc 27 args).run Try.prog w = .ok (.enter 27 args) w := by go_simp
theorem i_OnesCount16_max (w : World) : Calls Try.prog 15 #[.int .u16 65535] w fun e w' => e = .returned (.int .i64 16) ∧ ∃ nq, w' = w.drewN nq := by
  have h := i_OnesCount16 65535 (by decide) w
  rw [show pc 16 65535 = 16 from pc_ones 16] at h
  exact h
theorem i_OnesCount16_zero (w : World) : Calls Try.prog 15 #[.int .u16 0] w fun e w' => e = .returned (.int .i64 0) ∧ ∃ nq, w' = w.drewN nq := by
  have h := i_OnesCount16 0 (by decide) w
  rw [pc_zero] at h
  exact h
theorem enters_OnesCount16 (args : Array Value) (w : World) : (callFunc 15 args).run Try.prog w = .ok (.enter 15 args) w := by go_simp
theorem i_Len16_max (w : World) : Calls Try.prog 23 #[.int .u16 65535] w fun e w' => e = .returned (.int .i64 16) ∧ w = w' := by
  have h := i_Len16 65535 (by decide) w
  rw [show len 65535 = 16 from len_eq 65535 16 (lenIs_ones 16)] at h
  exact h
theorem enters_Reverse16 (args : Array Value) (w : World) : (callFunc 17 args).run Try.prog w = .ok (.enter 17 args) w := by go_simp
theorem enters_RotateLeft16 (args : Array Value) (w : World) : (callFunc 21 args).run Try.prog w = .ok (.enter 21 args) w := by go_simp
end Go.Proofs.Ytlfgeloaeglmlaa
