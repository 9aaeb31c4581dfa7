/-
  PROVED: FnRotateLeft: for all x and all k, negative ones too, the library's answer is x with each bit moved k places up, counted round, by the reference. Its conditions: the given row's own, and no others.
-/
import Derived.Test.YtbliimclmdigcaaRows
import Derived.WalkKit
import Derived.ProofKit
import Derived.OpenShut
import Derived.Test.YtbliimclmdigcaaLib
import Derived.Test.YtbliimclmdigcaaSpecC
namespace Go.Proofs.Ytbliimclmdigcaa.fnRotateLeft
open Go.ChangeShapes Go.WideShapes Go.ChangeAt Go.RowKit Go.Lathe

theorem own : ownKnob Try.prog.godebug = none := by kernel_rfl
theorem walk (x0 : Nat) (h0 : x0 < 18446744073709551616) (k : Int) (hk0 : -9223372036854775808 ≤ k) (hk1 : k ≤ 9223372036854775807) (w : World) :
    Calls Try.prog 4 #[.int .u64 x0, .int .i64 k] w fun e w' => e = .returned (.bool true) ∧ Below w.heap.size w w' := by
  have c1 := i_RotateLeft x0 k h0
  have c2 : ∀ w, Calls Try.prog 19 #[.int .i64 64, .int .u64 x0, .int .i64 k] w fun e w' => e = .returned (.int .u64 ((rotl 64 x0 (k % 64).toNat : Nat) : Int)) ∧ Below w.heap.size w w' :=
    fun w => s_Rotated 64 x0 k w (by decide) (by decide) (by omega) hk0 hk1
  have hw : IntKind.u64.wrap ((rotl 64 x0 (k % 64).toNat : Nat) : Int) = ((rotl 64 x0 (k % 64).toNat : Nat) : Int) := IntWalk.u64_in _ (by have h := rotl_lt 64 x0 (k % 64).toNat; rw [show (2 : Nat) ^ 64 = 18446744073709551616 from rfl] at h; omega)
  generalize rotl 64 x0 (k % 64).toNat = t at c1 c2 hw
  have C1 := Lib.hid c1
  have C2 := Lib.hid c2
  clear c1 c2 hk0 hk1
  go_enter Try.func4, Try.ntmps4
  go_wp2_with (first
    | (go_at_call 18; (with_reducible refine (C1.out _).mono ?_); rintro e w' ⟨rfl, rfl⟩)
      | (go_at_call 17; (with_reducible refine (s_Width _).mono ?_); rintro e w' ⟨rfl, rfl⟩)
    | (go_at_call 19; (with_reducible refine (C2.out _).mono ?_); rintro e w' ⟨rfl, hb⟩))
  go_ret
  exact ⟨rfl, hb⟩

set_option maxRecDepth 100000 in
theorem lifted (os : Os) (started : os.Started) (H : Type) (enc : TypeId × Value → H) :
    ReturnsInHanded {} Try.checked os 4 .any (Rows.fnRotateLeftSpec.pre6 enc Try.prog Try.f4 Rows.fnRotateLeftRow.domain false) (Rows.fnRotateLeftSpec.post enc Try.prog Try.f4 false true false false) := by
  refine returnsInHanded_of_change (C := Try.checked) own started (by kernel_rfl) Try.func4
    (ChangeSpec.witness6 (enc := enc) (C := Try.checked) false ⟨#[], #[.int .u64 0, .int .i64 0], []⟩ 8 (by kernel_rfl) (by kernel_rfl) (by kernel_rfl) (by kernel_rfl)) ?_
  intro W base args ds gs before hval0 hW hcnd _
  have hval : ∀ (j : Nat) t v, Try.f4.params[j]? = some t → args[j]? = some v → Value.okWide Try.prog W .any base t v := hval0
  have hW' := hW
  obtain ⟨p, q, hA0, hV, rfl, hfz, hnd⟩ := hW
  have hA : DataW.TrodAll enc Try.prog W 0 (fun _ => true) true Try.f4.params.toList args.toList ds p := hA0
  rw [Try.params4] at hA hval
  obtain ⟨v0, vs0, d0, ds0, p0, q0, hargs, rfl, rfl, h0, r0⟩ := trodAll_cons hA
  obtain ⟨v1, vs1, d1, ds1, p1, q1, rfl, rfl, rfl, h1, r1⟩ := trodAll_cons r0
  obtain ⟨rfl, rfl, rfl⟩ := trodAll_nil r1
  obtain rfl : args = #[v0, v1] := by cases args; simp_all
  obtain ⟨rfl, rfl⟩ := trodVars_none hV
  obtain ⟨a0, rfl, rfl, rfl, w0⟩ := open_int Try.underlying22 (hval 0 22 v0 rfl rfl) h0
  obtain ⟨a1, rfl, rfl, rfl, w1⟩ := open_int Try.underlying3 (hval 1 3 v1 rfl rfl) h1
  have b0 := bounds_u64 w0
  obtain ⟨x0, rfl⟩ := Int.eq_ofNat_of_zero_le b0.1
  have b1 := bounds_i64 w1
  clear hA0 hval0
  refine (walk x0 (by omega) a1 (by omega) (by omega) W).mono fun e W' ⟨he, bel⟩ => ?_
  subst he
  exact ⟨_, rfl, _, _, _, [], _, [], hW', trodAll_mk1 (shut_bool Try.underlying4 _), (trodAll_cons_mk (shut_int Try.underlying22 w0) (trodAll_cons_mk (shut_int Try.underlying3 w1) trodAll_mk0)), rfl, bel.frame _, fun h => by cases h⟩

theorem over : Rows.fnRotateLeftRow.holds Try.pinned (OpenSpec.ofChange Rows.fnRotateLeftSpec) :=
  OpenClaim.holds_of_wide 4 Try.f4 rfl rfl rfl rfl rfl rfl rfl ⟨rfl, rfl, rfl, rfl, rfl⟩ rfl rfl rfl rfl rfl (by kernel_rfl) Try.func4 (by kernel_rfl)
    (of_decide_eq_true (by kernel_rfl)) (by unfold Func.isWrapper; first | (rw [if_pos (by decide +kernel)]; kernel_rfl) | (rw [if_neg (by decide +kernel)]; exact ⟨rfl, rfl⟩))
    (fun os started H enc _ => lifted os started H enc)

/-- THE STATEMENT -/
theorem proved : Rows.FnRotateLeftSaid := over
#print axioms proved
end Go.Proofs.Ytbliimclmdigcaa.fnRotateLeft
