/-
  PROVED: FnReverseBytes: for all x, the library's answer is the number with the same bytes in the opposite order, by the reference. Its conditions: the given row's own, and no others.
-/
import Derived.Test.YtbliimclmdigcaaRows
import Derived.WalkKit
import Derived.ProofKit
import Derived.OpenShut
import Derived.Test.YtbliimclmdigcaaLib
import Derived.Test.YtbliimclmdigcaaSpecC
namespace Go.Proofs.Ytbliimclmdigcaa.fnReverseBytes
open Go.ChangeShapes Go.WideShapes Go.ChangeAt Go.RowKit Go.Lathe

theorem own : ownKnob Try.prog.godebug = none := by kernel_rfl
theorem walk (x0 : Nat) (h0 : x0 < 18446744073709551616) (w : World) :
    Calls Try.prog 5 #[.int .u64 x0] w fun e w' => e = .returned (.bool true) ∧ Below w.heap.size w w' := by
  have c1 := i_ReverseBytes x0 h0
  have c2 : ∀ w, Calls Try.prog 21 #[.int .i64 64, .int .u64 x0] w fun e w' => e = .returned (.int .u64 ((revB 64 x0 : Nat) : Int)) ∧ Below w.heap.size w w' :=
    fun w => by
      have h := s_BytesReversed 8 x0 w (by decide) (by decide) (by omega)
      rw [show 8 * 8 = 64 from rfl] at h
      exact h
  have hw : IntKind.u64.wrap ((revB 64 x0 : Nat) : Int) = ((revB 64 x0 : Nat) : Int) := IntWalk.u64_in _ (by have h := revB_lt 64 x0; rw [show (2 : Nat) ^ 64 = 18446744073709551616 from rfl] at h; omega)
  generalize revB 64 x0 = t at c1 c2 hw
  have C1 := Lib.hid c1
  have C2 := Lib.hid c2
  clear c1 c2
  go_enter Try.func5, Try.ntmps5
  go_wp2_with (first
    | (go_at_call 20; (with_reducible refine (C1.out _).mono ?_); rintro e w' ⟨rfl, rfl⟩)
      | (go_at_call 17; (with_reducible refine (s_Width _).mono ?_); rintro e w' ⟨rfl, rfl⟩)
    | (go_at_call 21; (with_reducible refine (C2.out _).mono ?_); rintro e w' ⟨rfl, hb⟩))
  go_ret
  exact ⟨rfl, hb⟩

set_option maxRecDepth 100000 in
theorem lifted (os : Os) (started : os.Started) (H : Type) (enc : TypeId × Value → H) :
    ReturnsInHanded {} Try.checked os 5 .any (Rows.fnReverseBytesSpec.pre6 enc Try.prog Try.f5 Rows.fnReverseBytesRow.domain false) (Rows.fnReverseBytesSpec.post enc Try.prog Try.f5 false true false false) := by
  refine returnsInHanded_of_change (C := Try.checked) own started (by kernel_rfl) Try.func5
    (ChangeSpec.witness6 (enc := enc) (C := Try.checked) false ⟨#[], #[.int .u64 0], []⟩ 8 (by kernel_rfl) (by kernel_rfl) (by kernel_rfl) (by kernel_rfl)) ?_
  intro W base args ds gs before hval0 hW hcnd _
  have hval : ∀ (j : Nat) t v, Try.f5.params[j]? = some t → args[j]? = some v → Value.okWide Try.prog W .any base t v := hval0
  have hW' := hW
  obtain ⟨p, q, hA0, hV, rfl, hfz, hnd⟩ := hW
  have hA : DataW.TrodAll enc Try.prog W 0 (fun _ => true) true Try.f5.params.toList args.toList ds p := hA0
  rw [Try.params5] at hA hval
  obtain ⟨v0, vs0, d0, ds0, p0, q0, hargs, rfl, rfl, h0, r0⟩ := trodAll_cons hA
  obtain ⟨rfl, rfl, rfl⟩ := trodAll_nil r0
  obtain rfl : args = #[v0] := by cases args; simp_all
  obtain ⟨rfl, rfl⟩ := trodVars_none hV
  obtain ⟨a0, rfl, rfl, rfl, w0⟩ := open_int Try.underlying22 (hval 0 22 v0 rfl rfl) h0
  have b0 := bounds_u64 w0
  obtain ⟨x0, rfl⟩ := Int.eq_ofNat_of_zero_le b0.1
  clear hA0 hval0
  refine (walk x0 (by omega) W).mono fun e W' ⟨he, bel⟩ => ?_
  subst he
  exact ⟨_, rfl, _, _, _, [], _, [], hW', trodAll_mk1 (shut_bool Try.underlying4 _), (trodAll_cons_mk (shut_int Try.underlying22 w0) trodAll_mk0), rfl, bel.frame _, fun h => by cases h⟩

theorem over : Rows.fnReverseBytesRow.holds Try.pinned (OpenSpec.ofChange Rows.fnReverseBytesSpec) :=
  OpenClaim.holds_of_wide 5 Try.f5 rfl rfl rfl rfl rfl rfl rfl ⟨rfl, rfl, rfl, rfl, rfl⟩ rfl rfl rfl rfl rfl (by kernel_rfl) Try.func5 (by kernel_rfl)
    (of_decide_eq_true (by kernel_rfl)) (by unfold Func.isWrapper; first | (rw [if_pos (by decide +kernel)]; kernel_rfl) | (rw [if_neg (by decide +kernel)]; exact ⟨rfl, rfl⟩))
    (fun os started H enc _ => lifted os started H enc)

/-- THE STATEMENT -/
theorem proved : Rows.FnReverseBytesSaid := over
#print axioms proved
end Go.Proofs.Ytbliimclmdigcaa.fnReverseBytes
