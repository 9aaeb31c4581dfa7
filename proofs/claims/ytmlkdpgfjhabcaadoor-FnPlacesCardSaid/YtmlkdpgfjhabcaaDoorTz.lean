/-
  Contracts of math/bits.TrailingZeros of 16, 32 and 64 bits and of uint, where the library's table holds what its initialiser lays; and of the thin package over them.
-/
import Derived.Test.YtmlkdpgfjhabcaaDoorLib
import Derived.Test.YtmlkdpgfjhabcaaDoorMore
namespace Go.Proofs.YtmlkdpgfjhabcaaDoor
open Go.RowKit Go.Lathe
/-- the table in its variable -/
def TabAt (g : Nat) (tab : List Nat) (w : World) : Prop := ∀ j, j < tab.length → w.cell? ⟨g, j, none⟩ = some (.int .u8 (tab.getD j 0))
theorem TabAt.drewN {g : Nat} {tab : List Nat} {w : World} (h : TabAt g tab w) (n : Nat) : TabAt g tab (w.drewN n) := h
theorem TabAt.below {g B : Nat} {tab : List Nat} {w w' : World} (h : TabAt g tab w) (hb : Below B w w') (hg : g < B) : TabAt g tab w' := fun j hj => (hb.cell hg).trans (h j hj)
theorem tzw16_core (x l idx k : Nat) (w : World) (_h0 : ((x : Int) == 0) = false) (_hl : l < 65536)
    (_e1 : bits .and .u16 (x : Int) (IntKind.u16.wrap (-(x : Int))) = (l : Int)) (_e2 : (l : Int) * 125613361 % 4294967296 / 134217728 = (idx : Int)) (_hi : idx < 32) (_hk : k < 32)
    (_hc : w.cell? ⟨0, idx, none⟩ = some (.int .u8 k)) :
    Calls Tryd.prog 23 #[.int .u16 x] w fun e w' => e = .returned (.int .i64 k) ∧ w = w' := by
  go_enter Tryd.func23, Tryd.ntmps23
  go_wp2_with (simp only [_e2])
  go_ret
  exact ⟨rfl, rfl⟩
theorem tzw16_zero (x : Nat) (w : World) (_h0 : ((x : Int) == 0) = true) :
    Calls Tryd.prog 23 #[.int .u16 x] w fun e w' => e = .returned (.int .i64 16) ∧ w = w' := by
  go_enter Tryd.func23, Tryd.ntmps23
  go_wp2
  go_ret
  exact ⟨rfl, rfl⟩
theorem b_TrailingZeros16 (x : Nat) (hx : x < 65536) (w : World) (hT : TabAt 0 Lib.deBruijn32tab w) :
    Calls Tryd.prog 23 #[.int .u16 x] w fun e w' => e = .returned (.int .i64 (tz 16 x)) ∧ w = w' := by
  by_cases h0 : x = 0
  · have := tzw16_zero x w (by simp; omega)
    rw [show tz 16 x = 16 by rw [h0]; exact tz_zero 16]
    exact this
  · have hl := low_u16 x hx
    rw [if_neg h0] at hl
    have hk := (tz_low 16 x h0 hx).2
    obtain ⟨hi, htab⟩ := Lib.deBruijn32_at (tz 16 x) (by omega)
    have hcell := hT _ hi
    rw [htab] at hcell
    refine tzw16_core x _ _ _ w (by simp; omega) (two_pow_lt _ 16 hk) hl ?_ hi (by omega) hcell
    skip
    generalize 2 ^ tz 16 x = p
    omega
theorem tzw32_core (x l idx k : Nat) (w : World) (_h0 : ((x : Int) == 0) = false) (_hl : l < 4294967296)
    (_e1 : bits .and .u32 (x : Int) (-(x : Int) % 4294967296) = (l : Int)) (_e2 : (l : Int) * 125613361 % 4294967296 / 134217728 = (idx : Int)) (_hi : idx < 32) (_hk : k < 32)
    (_hc : w.cell? ⟨0, idx, none⟩ = some (.int .u8 k)) :
    Calls Tryd.prog 27 #[.int .u32 x] w fun e w' => e = .returned (.int .i64 k) ∧ w = w' := by
  go_enter Tryd.func27, Tryd.ntmps27
  go_wp2_with (simp only [_e2])
  go_ret
  exact ⟨rfl, rfl⟩
theorem tzw32_zero (x : Nat) (w : World) (_h0 : ((x : Int) == 0) = true) :
    Calls Tryd.prog 27 #[.int .u32 x] w fun e w' => e = .returned (.int .i64 32) ∧ w = w' := by
  go_enter Tryd.func27, Tryd.ntmps27
  go_wp2
  go_ret
  exact ⟨rfl, rfl⟩
theorem b_TrailingZeros32 (x : Nat) (hx : x < 4294967296) (w : World) (hT : TabAt 0 Lib.deBruijn32tab w) :
    Calls Tryd.prog 27 #[.int .u32 x] w fun e w' => e = .returned (.int .i64 (tz 32 x)) ∧ w = w' := by
  by_cases h0 : x = 0
  · have := tzw32_zero x w (by simp; omega)
    rw [show tz 32 x = 32 by rw [h0]; exact tz_zero 32]
    exact this
  · have hl := low_u32 x hx
    rw [if_neg h0] at hl
    have hk := (tz_low 32 x h0 hx).2
    obtain ⟨hi, htab⟩ := Lib.deBruijn32_at (tz 32 x) (by omega)
    have hcell := hT _ hi
    rw [htab] at hcell
    refine tzw32_core x _ _ _ w (by simp; omega) (two_pow_lt _ 32 hk) hl ?_ hi (by omega) hcell
    skip
    generalize 2 ^ tz 32 x = p
    omega
theorem tzw64_core (x l idx k : Nat) (w : World) (_h0 : ((x : Int) == 0) = false) (_hl : l < 18446744073709551616)
    (_e1 : bits .and .u64 (x : Int) (IntKind.u64.wrap (-(x : Int))) = (l : Int)) (_e2 : IntKind.u64.wrap ((l : Int) * 285870213051353865) / 288230376151711744 = (idx : Int)) (_hi : idx < 64) (_hk : k < 64)
    (_hc : w.cell? ⟨1, idx, none⟩ = some (.int .u8 k)) :
    Calls Tryd.prog 30 #[.int .u64 x] w fun e w' => e = .returned (.int .i64 k) ∧ w = w' := by
  go_enter Tryd.func30, Tryd.ntmps30
  go_wp2_with (simp only [_e2])
  go_ret
  exact ⟨rfl, rfl⟩
theorem tzw64_zero (x : Nat) (w : World) (_h0 : ((x : Int) == 0) = true) :
    Calls Tryd.prog 30 #[.int .u64 x] w fun e w' => e = .returned (.int .i64 64) ∧ w = w' := by
  go_enter Tryd.func30, Tryd.ntmps30
  go_wp2
  go_ret
  exact ⟨rfl, rfl⟩
theorem b_TrailingZeros64 (x : Nat) (hx : x < 18446744073709551616) (w : World) (hT : TabAt 1 Lib.deBruijn64tab w) :
    Calls Tryd.prog 30 #[.int .u64 x] w fun e w' => e = .returned (.int .i64 (tz 64 x)) ∧ w = w' := by
  by_cases h0 : x = 0
  · have := tzw64_zero x w (by simp; omega)
    rw [show tz 64 x = 64 by rw [h0]; exact tz_zero 64]
    exact this
  · have hl := low_u64 x hx
    rw [if_neg h0] at hl
    have hk := (tz_low 64 x h0 hx).2
    obtain ⟨hi, htab⟩ := Lib.deBruijn64_at (tz 64 x) (by omega)
    have hcell := hT _ hi
    rw [htab] at hcell
    refine tzw64_core x _ _ _ w (by simp; omega) (two_pow_lt _ 64 hk) hl ?_ hi (by omega) hcell
    rw [wrapw_u64]
    generalize 2 ^ tz 64 x = p
    omega
theorem b_TrailingZeros (x : Nat) (hx : x < 18446744073709551616) (w : World) (hT : TabAt 1 Lib.deBruijn64tab w) :
    Calls Tryd.prog 33 #[.int .u64 x] w fun e w' => e = .returned (.int .i64 (tz 64 x)) ∧ w = w' := by
  have hs := tz_le 64 x hx
  have C := Lib.hid (b_TrailingZeros64 x hx w hT)
  have H := Lib.hid hT
  clear hT
  go_enter Tryd.func33, Tryd.ntmps33
  go_wp2_with (go_at_call 30; refine C.out.mono ?_; rintro e w' ⟨rfl, rfl⟩)
  go_ret
  exact ⟨rfl, rfl⟩
theorem i_TrailingZeros16 (x : Nat) (hx : x < 65536) (w : World) (T32 : TabAt 0 Lib.deBruijn32tab w) : Calls Tryd.prog 7 #[.int .u16 x] w fun e w' => e = .returned (.int .i64 (tz 16 x)) ∧ w = w' := by
  have C := Lib.hid (b_TrailingZeros16 x hx w T32)
  have H := Lib.hid T32
  clear T32
  go_enter Tryd.func7, Tryd.ntmps7
  go_wp2_with (go_at_call 23; refine C.out.mono ?_; rintro e w' ⟨rfl, rfl⟩)
  go_ret
  exact ⟨rfl, rfl⟩
theorem i_TrailingZeros32 (x : Nat) (hx : x < 4294967296) (w : World) (T32 : TabAt 0 Lib.deBruijn32tab w) : Calls Tryd.prog 13 #[.int .u32 x] w fun e w' => e = .returned (.int .i64 (tz 32 x)) ∧ w = w' := by
  have C := Lib.hid (b_TrailingZeros32 x hx w T32)
  have H := Lib.hid T32
  clear T32
  go_enter Tryd.func13, Tryd.ntmps13
  go_wp2_with (go_at_call 27; refine C.out.mono ?_; rintro e w' ⟨rfl, rfl⟩)
  go_ret
  exact ⟨rfl, rfl⟩
theorem i_TrailingZeros64 (x : Nat) (hx : x < 18446744073709551616) (w : World) (T64 : TabAt 1 Lib.deBruijn64tab w) : Calls Tryd.prog 16 #[.int .u64 x] w fun e w' => e = .returned (.int .i64 (tz 64 x)) ∧ w = w' := by
  have C := Lib.hid (b_TrailingZeros64 x hx w T64)
  have H := Lib.hid T64
  clear T64
  go_enter Tryd.func16, Tryd.ntmps16
  go_wp2_with (go_at_call 30; refine C.out.mono ?_; rintro e w' ⟨rfl, rfl⟩)
  go_ret
  exact ⟨rfl, rfl⟩
theorem i_TrailingZeros (x : Nat) (hx : x < 18446744073709551616) (w : World) (T64 : TabAt 1 Lib.deBruijn64tab w) : Calls Tryd.prog 19 #[.int .u64 x] w fun e w' => e = .returned (.int .i64 (tz 64 x)) ∧ w = w' := by
  have C := Lib.hid (b_TrailingZeros x hx w T64)
  have H := Lib.hid T64
  clear T64
  go_enter Tryd.func19, Tryd.ntmps19
  go_wp2_with (go_at_call 33; refine C.out.mono ?_; rintro e w' ⟨rfl, rfl⟩)
  go_ret
  exact ⟨rfl, rfl⟩
end Go.Proofs.YtmlkdpgfjhabcaaDoor
