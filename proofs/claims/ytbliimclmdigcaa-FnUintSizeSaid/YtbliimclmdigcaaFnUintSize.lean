/-
  PROVED: FnUintSize: UintSize is the number of bits of a uint. Its conditions: the given row's own, and no others.
-/
import Derived.Test.YtbliimclmdigcaaRows
import Derived.WalkKit
import Derived.ProofKit
import Derived.OpenShut
import Derived.Test.YtbliimclmdigcaaLib
import Derived.Test.YtbliimclmdigcaaSpecB
namespace Go.Proofs.Ytbliimclmdigcaa.fnUintSize
open Go.ChangeShapes Go.WideShapes Go.ChangeAt Go.RowKit Go.Lathe

theorem own : ownKnob Try.prog.godebug = none := by kernel_rfl
theorem i_UintSize (w : World) : Calls Try.prog 16 #[] w fun e w' => e = .returned (.int .i64 64) ∧ w = w' := by
  go_enter Try.func16, Try.ntmps16
  go_wp2
  go_ret
  exact ⟨rfl, rfl⟩
theorem walk (x0 : Nat) (h0 : x0 < 18446744073709551616) (w : World) :
    Calls Try.prog 3 #[.int .u64 x0] w fun e w' => e = .returned (.bool true) ∧ Below w.heap.size w w' := by
  have hq : (x0 : Int) / 9223372036854775808 ≤ 1 := by omega
  obtain ⟨q, hq1, hq2⟩ : ∃ q : Nat, (x0 : Int) / 9223372036854775808 = (q : Int) ∧ q ≤ 1 := ⟨x0 / 9223372036854775808, by omega, by omega⟩
  have hq3 : decide ((q : Int) ≤ 1) = true := by simp; omega
  clear hq h0 hq2
  go_enter Try.func3, Try.ntmps3
  go_wp2_with (first
    | (go_at_call 16; (with_reducible refine (i_UintSize _).mono ?_); rintro e w' ⟨rfl, rfl⟩)
    | (go_at_call 17; (with_reducible refine (s_Width _).mono ?_); rintro e w' ⟨rfl, rfl⟩))
  go_ret
  exact ⟨rfl, Below.refl _ _⟩

set_option maxRecDepth 100000 in
theorem lifted (os : Os) (started : os.Started) (H : Type) (enc : TypeId × Value → H) :
    ReturnsInHanded {} Try.checked os 3 .any (Rows.fnUintSizeSpec.pre6 enc Try.prog Try.f3 Rows.fnUintSizeRow.domain false) (Rows.fnUintSizeSpec.post enc Try.prog Try.f3 false true false false) := by
  refine returnsInHanded_of_change (C := Try.checked) own started (by kernel_rfl) Try.func3
    (ChangeSpec.witness6 (enc := enc) (C := Try.checked) false ⟨#[], #[.int .u64 0], []⟩ 8 (by kernel_rfl) (by kernel_rfl) (by kernel_rfl) (by kernel_rfl)) ?_
  intro W base args ds gs before hval0 hW hcnd _
  have hval : ∀ (j : Nat) t v, Try.f3.params[j]? = some t → args[j]? = some v → Value.okWide Try.prog W .any base t v := hval0
  have hW' := hW
  obtain ⟨p, q, hA0, hV, rfl, hfz, hnd⟩ := hW
  have hA : DataW.TrodAll enc Try.prog W 0 (fun _ => true) true Try.f3.params.toList args.toList ds p := hA0
  rw [Try.params3] at hA hval
  obtain ⟨v0, vs0, d0, ds0, p0, q0, hargs, rfl, rfl, h0, r0⟩ := trodAll_cons hA
  obtain ⟨rfl, rfl, rfl⟩ := trodAll_nil r0
  obtain rfl : args = #[v0] := by cases args; simp_all
  obtain ⟨rfl, rfl⟩ := trodVars_none hV
  obtain ⟨a0, rfl, rfl, rfl, w0⟩ := open_int Try.underlying22 (hval 0 22 v0 rfl rfl) h0
  have b0 := bounds_u64 w0
  obtain ⟨x0, rfl⟩ := Int.eq_ofNat_of_zero_le b0.1
  clear hA0 hval0
  refine (walk x0 (by omega) W).mono fun e W' ⟨he, bel⟩ => ?_
  subst he
  exact ⟨_, rfl, _, _, _, [], _, [], hW', trodAll_mk1 (shut_bool Try.underlying4 _), (trodAll_cons_mk (shut_int Try.underlying22 w0) trodAll_mk0), rfl, bel.frame _, fun h => by cases h⟩

theorem over : Rows.fnUintSizeRow.holds Try.pinned (OpenSpec.ofChange Rows.fnUintSizeSpec) :=
  OpenClaim.holds_of_wide 3 Try.f3 rfl rfl rfl rfl rfl rfl rfl ⟨rfl, rfl, rfl, rfl, rfl⟩ rfl rfl rfl rfl rfl (by kernel_rfl) Try.func3 (by kernel_rfl)
    (of_decide_eq_true (by kernel_rfl)) (by unfold Func.isWrapper; first | (rw [if_pos (by decide +kernel)]; kernel_rfl) | (rw [if_neg (by decide +kernel)]; exact ⟨rfl, rfl⟩))
    (fun os started H enc _ => lifted os started H enc)

/-- THE STATEMENT -/
theorem proved : Rows.FnUintSizeSaid := over
#print axioms proved
end Go.Proofs.Ytbliimclmdigcaa.fnUintSize
