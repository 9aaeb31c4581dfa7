/-
  Contracts of math/bits (Go's library) and of the thin package over it: what each function returns, for every argument; the world is as it was.
-/
import Derived.Test.YtmlkdpgfjhabcaaProg
import Derived.Test.YtmlkdpgfjhabcaaBits
import Derived.WalkKit
import Derived.WalkLawsBesides
import Derived.Outline
import Derived.Deep.QuietTactic
import Derived.BigQuiet
namespace Go.Proofs.Ytmlkdpgfjhabcaa
open Go.RowKit Go.Lathe

theorem b_Len8 (x : Nat) (hx : x < 256) (w : World) : Calls Try.prog 11 #[.int .u8 x] w fun e w' => e = .returned (.int .i64 (len x)) ∧ w = w' := by
  have h1 : (x : Int) ≤ 255 := by omega
  have e := len8_is x hx
  have hb : len x ≤ 8 := len_le 8 x hx
  go_enter Try.func11, Try.ntmps11
  go_wp2
  go_ret
  exact ⟨rfl, rfl⟩
theorem b_OnesCount8 (x : Nat) (hx : x < 256) (w : World) : Calls Try.prog 13 #[.int .u8 x] w fun e w' => e = .returned (.int .i64 (pc 8 x)) ∧ w = w' := by
  have h1 : (x : Int) ≤ 255 := by omega
  have e := pop8_is x hx
  have hb : pc 8 x ≤ 8 := pc_le 8 x
  go_enter Try.func13, Try.ntmps13
  go_wp2
  go_ret
  exact ⟨rfl, rfl⟩
theorem b_TrailingZeros8 (x : Nat) (hx : x < 256) (w : World) : Calls Try.prog 10 #[.int .u8 x] w fun e w' => e = .returned (.int .i64 (tz 8 x)) ∧ w = w' := by
  have h1 : (x : Int) ≤ 255 := by omega
  have e := ntz8_is x hx
  have hb : tz 8 x ≤ 8 := tz_le 8 x hx
  go_enter Try.func10, Try.ntmps10
  go_wp2
  go_ret
  exact ⟨rfl, rfl⟩

/-! ### uint is the 64 bit one -/
/-! ### the thin package -/
theorem i_Len8 (x : Nat) (hx : x < 256) (w : World) : Calls Try.prog 5 #[.int .u8 x] w fun e w' => e = .returned (.int .i64 (len x)) ∧ w = w' := by
  go_enter Try.func5, Try.ntmps5
  go_wp2_with (go_at_call 11; refine (b_Len8 x hx _).mono ?_; rintro e w' ⟨rfl, rfl⟩)
  go_ret
  exact ⟨rfl, rfl⟩
theorem i_OnesCount8 (x : Nat) (hx : x < 256) (w : World) : Calls Try.prog 9 #[.int .u8 x] w fun e w' => e = .returned (.int .i64 (pc 8 x)) ∧ w = w' := by
  go_enter Try.func9, Try.ntmps9
  go_wp2_with (go_at_call 13; refine (b_OnesCount8 x hx _).mono ?_; rintro e w' ⟨rfl, rfl⟩)
  go_ret
  first
    | exact ⟨rfl, rfl⟩
    | exact ⟨rfl, _, rfl⟩
theorem i_OnesCount8_max (w : World) : Calls Try.prog 9 #[.int .u8 255] w fun e w' => e = .returned (.int .i64 8) ∧ w = w' := by
  have h := i_OnesCount8 255 (by decide) w
  rw [show pc 8 255 = 8 from pc_ones 8] at h
  exact h
theorem i_OnesCount8_zero (w : World) : Calls Try.prog 9 #[.int .u8 0] w fun e w' => e = .returned (.int .i64 0) ∧ w = w' := by
  have h := i_OnesCount8 0 (by decide) w
  rw [pc_zero] at h
  exact h
theorem enters_OnesCount8 (args : Array Value) (w : World) : (callFunc 9 args).run Try.prog w = .ok (.enter 9 args) w := by go_simp
theorem i_Len8_max (w : World) : Calls Try.prog 5 #[.int .u8 255] w fun e w' => e = .returned (.int .i64 8) ∧ w = w' := by
  have h := i_Len8 255 (by decide) w
  rw [show len 255 = 8 from len_eq 255 8 (lenIs_ones 8)] at h
  exact h
end Go.Proofs.Ytmlkdpgfjhabcaa
