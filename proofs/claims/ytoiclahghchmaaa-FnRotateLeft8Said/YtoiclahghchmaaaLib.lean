/-
  Contracts of math/bits (Go's library) and of the thin package over it: what each function returns, for every argument; the world is as it was.
-/
import Derived.Test.YtoiclahghchmaaaProg
import Derived.Test.YtoiclahghchmaaaBits
import Derived.WalkKit
import Derived.WalkLawsBesides
import Derived.Outline
import Derived.Deep.QuietTactic
import Derived.BigQuiet
namespace Go.Proofs.Ytoiclahghchmaaa
open Go.RowKit Go.Lathe

theorem b_Len8 (x : Nat) (hx : x < 256) (w : World) : Calls Try.prog 31 #[.int .u8 x] w fun e w' => e = .returned (.int .i64 (len x)) ∧ w = w' := by
  have h1 : (x : Int) ≤ 255 := by omega
  have e := len8_is x hx
  have hb : len x ≤ 8 := len_le 8 x hx
  go_enter Try.func31, Try.ntmps31
  go_wp2
  go_ret
  exact ⟨rfl, rfl⟩
theorem b_OnesCount8 (x : Nat) (hx : x < 256) (w : World) : Calls Try.prog 34 #[.int .u8 x] w fun e w' => e = .returned (.int .i64 (pc 8 x)) ∧ w = w' := by
  have h1 : (x : Int) ≤ 255 := by omega
  have e := pop8_is x hx
  have hb : pc 8 x ≤ 8 := pc_le 8 x
  go_enter Try.func34, Try.ntmps34
  go_wp2
  go_ret
  exact ⟨rfl, rfl⟩
theorem b_TrailingZeros8 (x : Nat) (hx : x < 256) (w : World) : Calls Try.prog 37 #[.int .u8 x] w fun e w' => e = .returned (.int .i64 (tz 8 x)) ∧ w = w' := by
  have h1 : (x : Int) ≤ 255 := by omega
  have e := ntz8_is x hx
  have hb : tz 8 x ≤ 8 := tz_le 8 x hx
  go_enter Try.func37, Try.ntmps37
  go_wp2
  go_ret
  exact ⟨rfl, rfl⟩
theorem b_Reverse8 (x : Nat) (hx : x < 256) (w : World) : Calls Try.prog 35 #[.int .u8 x] w fun e w' => e = .returned (.int .u8 (rev 8 x)) ∧ w = w' := by
  have h1 : (x : Int) ≤ 255 := by omega
  have e := rev8_is x hx
  go_enter Try.func35, Try.ntmps35
  go_wp2
  go_ret
  exact ⟨rfl, rfl⟩
theorem b_LeadingZeros8 (x : Nat) (hx : x < 256) (w : World) : Calls Try.prog 38 #[.int .u8 x] w fun e w' => e = .returned (.int .i64 (8 - (len x : Int))) ∧ w = w' := by
  have hb : len x ≤ 8 := len_le 8 x hx
  go_enter Try.func38, Try.ntmps38
  go_wp2_with (go_at_call 31; refine (b_Len8 x hx _).mono ?_; rintro e w' ⟨rfl, rfl⟩)
  go_ret
  exact ⟨rfl, rfl⟩
theorem b_RotateLeft8 (x : Nat) (k : Int) (hx : x < 256) (w : World) : Calls Try.prog 39 #[.int .u8 x, .int .i64 k] w fun e w' => e = .returned (.int .u8 (rotl 8 x (k % 8).toNat)) ∧ w = w' := by
  have hs := rot_and8 k
  have h8 : (k % 8).toNat < 8 := by omega
  generalize (k % 8).toNat = s at hs h8
  go_enter Try.func39, Try.ntmps39
  go_wp2
  go_ret
  first
    | exact ⟨ret_int (rotm_u8 x s hx h8), rfl⟩
    | exact ⟨ret_int (rotw_u8 x s hx h8), rfl⟩

/-! ### uint is the 64 bit one -/
/-! ### the thin package -/
theorem i_Len8 (x : Nat) (hx : x < 256) (w : World) : Calls Try.prog 17 #[.int .u8 x] w fun e w' => e = .returned (.int .i64 (len x)) ∧ w = w' := by
  go_enter Try.func17, Try.ntmps17
  go_wp2_with (go_at_call 31; refine (b_Len8 x hx _).mono ?_; rintro e w' ⟨rfl, rfl⟩)
  go_ret
  exact ⟨rfl, rfl⟩
theorem i_LeadingZeros8 (x : Nat) (hx : x < 256) (w : World) : Calls Try.prog 25 #[.int .u8 x] w fun e w' => e = .returned (.int .i64 (8 - (len x : Int))) ∧ w = w' := by
  go_enter Try.func25, Try.ntmps25
  go_wp2_with (go_at_call 38; refine (b_LeadingZeros8 x hx _).mono ?_; rintro e w' ⟨rfl, rfl⟩)
  go_ret
  exact ⟨rfl, rfl⟩
theorem i_OnesCount8 (x : Nat) (hx : x < 256) (w : World) : Calls Try.prog 19 #[.int .u8 x] w fun e w' => e = .returned (.int .i64 (pc 8 x)) ∧ w = w' := by
  go_enter Try.func19, Try.ntmps19
  go_wp2_with (go_at_call 34; refine (b_OnesCount8 x hx _).mono ?_; rintro e w' ⟨rfl, rfl⟩)
  go_ret
  first
    | exact ⟨rfl, rfl⟩
    | exact ⟨rfl, _, rfl⟩
theorem i_Reverse8 (x : Nat) (hx : x < 256) (w : World) : Calls Try.prog 21 #[.int .u8 x] w fun e w' => e = .returned (.int .u8 (rev 8 x)) ∧ w = w' := by
  go_enter Try.func21, Try.ntmps21
  go_wp2_with (go_at_call 35; refine (b_Reverse8 x hx _).mono ?_; rintro e w' ⟨rfl, rfl⟩)
  go_ret
  first
    | exact ⟨rfl, rfl⟩
    | exact ⟨rfl, _, rfl⟩
theorem i_RotateLeft8 (x : Nat) (k : Int) (hx : x < 256) (w : World) : Calls Try.prog 27 #[.int .u8 x, .int .i64 k] w fun e w' => e = .returned (.int .u8 (rotl 8 x (k % 8).toNat)) ∧ w = w' := by
  go_enter Try.func27, Try.ntmps27
  go_wp2_with (go_at_call 39; refine (b_RotateLeft8 x k hx _).mono ?_; rintro e w' ⟨rfl, rfl⟩)
  go_ret
  exact ⟨rfl, rfl⟩
theorem i_OnesCount8_max (w : World) : Calls Try.prog 19 #[.int .u8 255] w fun e w' => e = .returned (.int .i64 8) ∧ w = w' := by
  have h := i_OnesCount8 255 (by decide) w
  rw [show pc 8 255 = 8 from pc_ones 8] at h
  exact h
theorem i_OnesCount8_zero (w : World) : Calls Try.prog 19 #[.int .u8 0] w fun e w' => e = .returned (.int .i64 0) ∧ w = w' := by
  have h := i_OnesCount8 0 (by decide) w
  rw [pc_zero] at h
  exact h
theorem enters_OnesCount8 (args : Array Value) (w : World) : (callFunc 19 args).run Try.prog w = .ok (.enter 19 args) w := by go_simp
theorem i_Len8_max (w : World) : Calls Try.prog 17 #[.int .u8 255] w fun e w' => e = .returned (.int .i64 8) ∧ w = w' := by
  have h := i_Len8 255 (by decide) w
  rw [show len 255 = 8 from len_eq 255 8 (lenIs_ones 8)] at h
  exact h
theorem enters_Reverse8 (args : Array Value) (w : World) : (callFunc 21 args).run Try.prog w = .ok (.enter 21 args) w := by go_simp
theorem enters_RotateLeft8 (args : Array Value) (w : World) : (callFunc 27 args).run Try.prog w = .ok (.enter 27 args) w := by go_simp
end Go.Proofs.Ytoiclahghchmaaa
