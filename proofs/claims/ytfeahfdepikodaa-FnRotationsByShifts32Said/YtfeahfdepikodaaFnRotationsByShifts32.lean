/-
  PROVED: FnRotationsByShifts32: rotating by fewer places than there are bits is moving up, and what falls off comes in below. Its conditions: the given row's own, and no others.
-/
import Derived.Test.YtfeahfdepikodaaRows
import Derived.WalkKit
import Derived.ProofKit
import Derived.OpenShut
import Derived.Test.YtfeahfdepikodaaLib
import Derived.Test.YtfeahfdepikodaaMore
namespace Go.Proofs.Ytfeahfdepikodaa.fnRotationsByShifts32
open Go.ChangeShapes Go.WideShapes Go.ChangeAt Go.RowKit Go.Lathe

theorem own : ownKnob Try.prog.godebug = none := by kernel_rfl
set_option maxHeartbeats 1000000 in
theorem core (x K m u v : Nat) (w : World) (_hx : x < 4294967296) (_hK : K < 18446744073709551616) (_hm : (K : Int) % 32 = (m : Int)) (_h8 : m < 32)
   (c1 : ∀ w, Calls Try.prog 19 #[.int .u32 x, .int .i64 m] w fun e w' => e = .returned (.int .u32 u) ∧ w = w')
   (c2 : ∀ w, Calls Try.prog 19 #[.int .u32 x, .int .i64 (-(m : Int))] w fun e w' => e = .returned (.int .u32 v) ∧ w = w')
   (_e1 : bits .or .u32 ((x : Int) * 2 ^ m % 4294967296) ((x : Int) / 2 / 2 ^ (31 - m)) = (u : Int))
   (_e2 : bits .or .u32 ((x : Int) / 2 ^ m) ((x : Int) * 2 % 4294967296 * 2 ^ (31 - m) % 4294967296) = (v : Int)) :
    Calls Try.prog 12 #[.int .u32 x, .int .u64 K] w fun e w' => e = .returned (.bool true) ∧ Below w.heap.size w w' := by
  have C1 := Lib.hid c1; have C2 := Lib.hid c2
  clear c1 c2
  go_enter Try.func12, Try.ntmps12
  go_wp2_with (first
    | (go_at_call 21; (with_reducible refine (i_Len32_max _).mono ?_); rintro e w' ⟨rfl, rfl⟩)
    | (go_at_call 19; (first | (with_reducible refine (C1.out _).mono ?_) | (with_reducible refine (C2.out _).mono ?_)); rintro e w' ⟨rfl, rfl⟩))
  go_ret
  exact ⟨rfl, Below.refl _ _⟩
theorem walk (x0 : Nat) (h0 : x0 < 4294967296) (x1 : Nat) (h1 : x1 < 18446744073709551616) (w : World) :
    Calls Try.prog 12 #[.int .u32 x0, .int .u64 x1] w fun e w' => e = .returned (.bool true) ∧ Below w.heap.size w w' := by
  have hm : x1 % 32 < 32 := Nat.mod_lt _ (by decide)
  have c1 := i_RotateLeft32 x0 ((x1 % 32 : Nat) : Int) h0
  rw [show (((x1 % 32 : Nat) : Int) % 32).toNat = x1 % 32 by omega] at c1
  have c2 := i_RotateLeft32 x0 (-((x1 % 32 : Nat) : Int)) h0
  rw [show ((-((x1 % 32 : Nat) : Int)) % 32).toNat = (32 - x1 % 32) % 32 by omega] at c2
  exact core x0 x1 (x1 % 32) _ _ w h0 h1 (by omega) hm c1 c2 (shA_u32 x0 _ h0 hm) (shB_u32 x0 _ h0 hm)

set_option maxRecDepth 100000 in
theorem lifted (os : Os) (started : os.Started) (H : Type) (enc : TypeId × Value → H) :
    ReturnsInHanded {} Try.checked os 12 .any (Rows.fnRotationsByShifts32Spec.pre6 enc Try.prog Try.f12 Rows.fnRotationsByShifts32Row.domain false) (Rows.fnRotationsByShifts32Spec.post enc Try.prog Try.f12 false true false false) := by
  refine returnsInHanded_of_change (C := Try.checked) own started (by kernel_rfl) Try.func12
    (ChangeSpec.witness6 (enc := enc) (C := Try.checked) false ⟨#[], #[.int .u32 0, .int .u64 0], []⟩ 8 (by kernel_rfl) (by kernel_rfl) (by kernel_rfl) (by kernel_rfl)) ?_
  intro W base args ds gs before hval0 hW hcnd _
  have hval : ∀ (j : Nat) t v, Try.f12.params[j]? = some t → args[j]? = some v → Value.okWide Try.prog W .any base t v := hval0
  have hW' := hW
  obtain ⟨p, q, hA0, hV, rfl, hfz, hnd⟩ := hW
  have hA : DataW.TrodAll enc Try.prog W 0 (fun _ => true) true Try.f12.params.toList args.toList ds p := hA0
  rw [Try.params12] at hA hval
  obtain ⟨v0, vs0, d0, ds0, p0, q0, hargs, rfl, rfl, h0, r0⟩ := trodAll_cons hA
  obtain ⟨v1, vs1, d1, ds1, p1, q1, rfl, rfl, rfl, h1, r1⟩ := trodAll_cons r0
  obtain ⟨rfl, rfl, rfl⟩ := trodAll_nil r1
  obtain rfl : args = #[v0, v1] := by cases args; simp_all
  obtain ⟨rfl, rfl⟩ := trodVars_none hV
  obtain ⟨a0, rfl, rfl, rfl, w0⟩ := open_int Try.underlying22 (hval 0 22 v0 rfl rfl) h0
  obtain ⟨a1, rfl, rfl, rfl, w1⟩ := open_int Try.underlying36 (hval 1 36 v1 rfl rfl) h1
  have b0 := bounds_u32 w0
  obtain ⟨x0, rfl⟩ := Int.eq_ofNat_of_zero_le b0.1
  have b1 := bounds_u64 w1
  obtain ⟨x1, rfl⟩ := Int.eq_ofNat_of_zero_le b1.1
  clear hA0 hval0
  refine (walk x0 (by omega) x1 (by omega) W).mono fun e W' ⟨he, bel⟩ => ?_
  subst he
  exact ⟨_, rfl, _, _, _, [], _, [], hW', trodAll_mk1 (shut_bool Try.underlying4 _), (trodAll_cons_mk (shut_int Try.underlying22 w0) (trodAll_cons_mk (shut_int Try.underlying36 w1) trodAll_mk0)), rfl, bel.frame _, fun h => by cases h⟩

theorem over : Rows.fnRotationsByShifts32Row.holds Try.pinned (OpenSpec.ofChange Rows.fnRotationsByShifts32Spec) :=
  OpenClaim.holds_of_wide 12 Try.f12 rfl rfl rfl rfl rfl rfl rfl ⟨rfl, rfl, rfl, rfl, rfl⟩ rfl rfl rfl rfl rfl (by kernel_rfl) Try.func12 (by kernel_rfl)
    (of_decide_eq_true (by kernel_rfl)) (by unfold Func.isWrapper; first | (rw [if_pos (by decide +kernel)]; kernel_rfl) | (rw [if_neg (by decide +kernel)]; exact ⟨rfl, rfl⟩))
    (fun os started H enc _ => lifted os started H enc)

/-- THE STATEMENT -/
theorem proved : Rows.FnRotationsByShifts32Said := over
#print axioms proved
end Go.Proofs.Ytfeahfdepikodaa.fnRotationsByShifts32
