/-
  Contracts of math/bits.TrailingZeros of 16, 32 and 64 bits and of uint, where the library's table holds what its initialiser lays; and of the thin package over them.
-/
import Derived.Test.YtmlkdpgfjhabcaaLib
import Derived.Test.YtmlkdpgfjhabcaaMore
namespace Go.Proofs.Ytmlkdpgfjhabcaa
open Go.RowKit Go.Lathe
/-- the table in its variable -/
def TabAt (g : Nat) (tab : List Nat) (w : World) : Prop := ∀ j, j < tab.length → w.cell? ⟨g, j, none⟩ = some (.int .u8 (tab.getD j 0))
theorem TabAt.drewN {g : Nat} {tab : List Nat} {w : World} (h : TabAt g tab w) (n : Nat) : TabAt g tab (w.drewN n) := h
theorem TabAt.below {g B : Nat} {tab : List Nat} {w w' : World} (h : TabAt g tab w) (hb : Below B w w') (hg : g < B) : TabAt g tab w' := fun j hj => (hb.cell hg).trans (h j hj)
theorem i_TrailingZeros8 (x : Nat) (hx : x < 256) (w : World) : Calls Try.prog 4 #[.int .u8 x] w fun e w' => e = .returned (.int .i64 (tz 8 x)) ∧ w = w' := by
  go_enter Try.func4, Try.ntmps4
  go_wp2_with (go_at_call 10; refine (b_TrailingZeros8 x hx _).mono ?_; rintro e w' ⟨rfl, rfl⟩)
  go_ret
  exact ⟨rfl, rfl⟩
end Go.Proofs.Ytmlkdpgfjhabcaa
