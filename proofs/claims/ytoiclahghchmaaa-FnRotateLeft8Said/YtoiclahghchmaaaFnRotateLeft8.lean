/-
  PROVED: FnRotateLeft8: for all x and all k, negative ones too, the library's answer is x with each bit moved k places up, counted round, by the reference. Its conditions: the given row's own, and no others.
-/
import Derived.Test.YtoiclahghchmaaaRows
import Derived.WalkKit
import Derived.ProofKit
import Derived.OpenShut
import Derived.Test.YtoiclahghchmaaaLib
import Derived.Test.YtoiclahghchmaaaSpecC
namespace Go.Proofs.Ytoiclahghchmaaa.fnRotateLeft8
open Go.ChangeShapes Go.WideShapes Go.ChangeAt Go.RowKit Go.Lathe

theorem own : ownKnob Try.prog.godebug = none := by kernel_rfl
theorem walk (x0 : Nat) (h0 : x0 < 256) (k : Int) (hk0 : -9223372036854775808 ≤ k) (hk1 : k ≤ 9223372036854775807) (w : World) :
    Calls Try.prog 8 #[.int .u8 x0, .int .i64 k] w fun e w' => e = .returned (.bool true) ∧ Below w.heap.size w w' := by
  have c1 := i_RotateLeft8 x0 k h0
  have c2 : ∀ w, Calls Try.prog 28 #[.int .i64 8, .int .u64 x0, .int .i64 k] w fun e w' => e = .returned (.int .u64 ((rotl 8 x0 (k % 8).toNat : Nat) : Int)) ∧ Below w.heap.size w w' :=
    fun w => s_Rotated 8 x0 k w (by decide) (by decide) (by omega) hk0 hk1
  have hw : IntKind.u64.wrap ((rotl 8 x0 (k % 8).toNat : Nat) : Int) = ((rotl 8 x0 (k % 8).toNat : Nat) : Int) := IntWalk.u64_in _ (by have h := rotl_lt 8 x0 (k % 8).toNat; rw [show (2 : Nat) ^ 8 = 256 from rfl] at h; omega)
  generalize rotl 8 x0 (k % 8).toNat = t at c1 c2 hw
  have C1 := Lib.hid c1
  have C2 := Lib.hid c2
  clear c1 c2 hk0 hk1
  go_enter Try.func8, Try.ntmps8
  go_wp2_with (first
    | (go_at_call 27; (with_reducible refine (C1.out _).mono ?_); rintro e w' ⟨rfl, rfl⟩)
    | (go_at_call 28; (with_reducible refine (C2.out _).mono ?_); rintro e w' ⟨rfl, hb⟩))
  go_ret
  exact ⟨rfl, hb⟩

set_option maxRecDepth 100000 in
theorem lifted (os : Os) (started : os.Started) (H : Type) (enc : TypeId × Value → H) :
    ReturnsInHanded {} Try.checked os 8 .any (Rows.fnRotateLeft8Spec.pre6 enc Try.prog Try.f8 Rows.fnRotateLeft8Row.domain false) (Rows.fnRotateLeft8Spec.post enc Try.prog Try.f8 false true false false) := by
  refine returnsInHanded_of_change (C := Try.checked) own started (by kernel_rfl) Try.func8
    (ChangeSpec.witness6 (enc := enc) (C := Try.checked) false ⟨#[], #[.int .u8 0, .int .i64 0], []⟩ 8 (by kernel_rfl) (by kernel_rfl) (by kernel_rfl) (by kernel_rfl)) ?_
  intro W base args ds gs before hval0 hW hcnd _
  have hval : ∀ (j : Nat) t v, Try.f8.params[j]? = some t → args[j]? = some v → Value.okWide Try.prog W .any base t v := hval0
  have hW' := hW
  obtain ⟨p, q, hA0, hV, rfl, hfz, hnd⟩ := hW
  have hA : DataW.TrodAll enc Try.prog W 0 (fun _ => true) true Try.f8.params.toList args.toList ds p := hA0
  rw [Try.params8] at hA hval
  obtain ⟨v0, vs0, d0, ds0, p0, q0, hargs, rfl, rfl, h0, r0⟩ := trodAll_cons hA
  obtain ⟨v1, vs1, d1, ds1, p1, q1, rfl, rfl, rfl, h1, r1⟩ := trodAll_cons r0
  obtain ⟨rfl, rfl, rfl⟩ := trodAll_nil r1
  obtain rfl : args = #[v0, v1] := by cases args; simp_all
  obtain ⟨rfl, rfl⟩ := trodVars_none hV
  obtain ⟨a0, rfl, rfl, rfl, w0⟩ := open_int Try.underlying5 (hval 0 5 v0 rfl rfl) h0
  obtain ⟨a1, rfl, rfl, rfl, w1⟩ := open_int Try.underlying3 (hval 1 3 v1 rfl rfl) h1
  have b0 := bounds_u8 w0
  obtain ⟨x0, rfl⟩ := Int.eq_ofNat_of_zero_le b0.1
  have b1 := bounds_i64 w1
  clear hA0 hval0
  refine (walk x0 (by omega) a1 (by omega) (by omega) W).mono fun e W' ⟨he, bel⟩ => ?_
  subst he
  exact ⟨_, rfl, _, _, _, [], _, [], hW', trodAll_mk1 (shut_bool Try.underlying4 _), (trodAll_cons_mk (shut_int Try.underlying5 w0) (trodAll_cons_mk (shut_int Try.underlying3 w1) trodAll_mk0)), rfl, bel.frame _, fun h => by cases h⟩

theorem over : Rows.fnRotateLeft8Row.holds Try.pinned (OpenSpec.ofChange Rows.fnRotateLeft8Spec) :=
  OpenClaim.holds_of_wide 8 Try.f8 rfl rfl rfl rfl rfl rfl rfl ⟨rfl, rfl, rfl, rfl, rfl⟩ rfl rfl rfl rfl rfl (by kernel_rfl) Try.func8 (by kernel_rfl)
    (of_decide_eq_true (by kernel_rfl)) (by unfold Func.isWrapper; first | (rw [if_pos (by decide +kernel)]; kernel_rfl) | (rw [if_neg (by decide +kernel)]; exact ⟨rfl, rfl⟩))
    (fun os started H enc _ => lifted os started H enc)

/-- THE STATEMENT -/
theorem proved : Rows.FnRotateLeft8Said := over
#print axioms proved
end Go.Proofs.Ytoiclahghchmaaa.fnRotateLeft8
