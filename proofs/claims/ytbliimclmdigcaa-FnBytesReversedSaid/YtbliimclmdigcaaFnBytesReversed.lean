/-
  PROVED: FnBytesReversed: reversing the bytes twice gives the number again; reversing the bits is reversing the bytes, and then the bits of each byte. Its conditions: the given row's own, and no others.
-/
import Derived.Test.YtbliimclmdigcaaRows
import Derived.WalkKit
import Derived.ProofKit
import Derived.OpenShut
import Derived.Test.YtbliimclmdigcaaLib
import Derived.Test.YtbliimclmdigcaaMore
import Derived.Test.YtbliimclmdigcaaSpecB
namespace Go.Proofs.Ytbliimclmdigcaa.fnBytesReversed
open Go.ChangeShapes Go.WideShapes Go.ChangeAt Go.RowKit Go.Lathe

theorem own : ownKnob Try.prog.godebug = none := by kernel_rfl
theorem or_step (A r p : Nat) (hA : A < 18446744073709551616) (hr : r * 2 ^ p < 18446744073709551616) : bits .or .u64 (A : Int) (IntKind.u64.wrap ((r : Int) * 2 ^ p)) = ((A ||| r * 2 ^ p : Nat) : Int) := by
  have e : IntKind.u64.wrap ((r : Int) * 2 ^ p) = ((r * 2 ^ p : Nat) : Int) := by
    rw [wrapw_u64]
    have e1 : (r : Int) * 2 ^ p = ((r * 2 ^ p : Nat) : Int) := by simp
    rw [e1]
    generalize r * 2 ^ p = q at hr ⊢
    omega
  rw [e, u64_or_nat A _ hA hr]
set_option maxHeartbeats 1000000 in
theorem walk (x0 : Nat) (h0 : x0 < 18446744073709551616) (w : World) :
    Calls Try.prog 11 #[.int .u64 x0] w fun e w' => e = .returned (.bool true) ∧ Below w.heap.size w w' := by
  have c1 := i_ReverseBytes x0 h0
  have c2 := i_ReverseBytes (revB 64 x0) (revB_lt 64 x0)
  have rr := revB_revB 8 x0 h0
  rw [show 8 * 8 = 64 from rfl] at rr
  rw [rr] at c2
  have c3 := i_Reverse x0 h0
  have step : ∀ k, k < 8 → (rev 64 x0 % 2 ^ (8 * k)) ||| (rev 8 (revB 64 x0 / 2 ^ (8 * k) % 256) * 2 ^ (8 * k)) = rev 64 x0 % 2 ^ (8 * (k + 1)) := by
    intro k hk
    exact bytes_step 8 k x0 _ rfl hk
  have hR : rev 64 x0 < 18446744073709551616 := rev_lt 64 x0
  have hR2 : rev 64 x0 % 2 ^ 64 = rev 64 x0 := Nat.mod_eq_of_lt (rev_lt 64 x0)
  have hy : revB 64 x0 < 18446744073709551616 := revB_lt 64 x0
  clear rr h0
  generalize revB 64 x0 = y at c1 c2 step hy
  generalize rev 64 x0 = R at c3 step hR hR2
  have C1 := Lib.hid c1; have C2 := Lib.hid c2; have C3 := Lib.hid c3
  have STEP := Lib.hid step
  have HR := Lib.hid hR
  have HR2 := Lib.hid hR2
  clear c1 c2 c3 step hR hR2
  go_enter Try.func11, Try.ntmps11
  go_wp2_with (go_at_call 20; (with_reducible refine (C1.out _).mono ?_); rintro e w' ⟨rfl, rfl⟩)
  go_loop [4, 5] (fun a i => ∃ p k : Nat, p = 8 * k ∧ k ≤ 8 ∧ i = .int .i64 p ∧ a = .int .u64 ((R % 2 ^ p : Nat) : Int)) (fun _ i => 64 - (intOf i).toNat)
  case atStart => exact ⟨0, 0, rfl, by decide, rfl, by rw [Nat.pow_zero, Nat.mod_one]; rfl⟩
  case round =>
    obtain ⟨p, k, hp, hk, rfl, rfl⟩ := hrel
    by_cases hlt : k < 8
    · have hpn : p + 8 ≤ 64 := by omega
      have st := STEP.out k hlt
      rw [← hp] at st
      have hb8 : y / 2 ^ p % 256 < 256 := Nat.mod_lt _ (by decide)
      have hA : R % 2 ^ p < 18446744073709551616 := Nat.lt_of_le_of_lt (Nat.mod_le _ _) HR.out
      have eb : (y : Int) / 2 ^ p % 256 = ((y / 2 ^ p % 256 : Nat) : Int) := by simp
      have cr := i_Reverse8 _ hb8
      have hr8 := rev8_lt (y / 2 ^ p % 256)
      have hsh : rev 8 (y / 2 ^ p % 256) * 2 ^ p < 18446744073709551616 := by
        have h1 : rev 8 (y / 2 ^ p % 256) * 2 ^ p < 2 ^ 8 * 2 ^ p := Nat.mul_lt_mul_of_pos_right (rev_lt 8 _) (Nat.two_pow_pos _)
        rw [← Nat.pow_add] at h1
        have h2 := two_pow_le (8 + p) 64 (by omega)
        exact Nat.lt_of_lt_of_le h1 h2
      have os := or_step (R % 2 ^ p) _ p hA hsh
      rw [st] at os
      have HP := Lib.hid hp
      clear st hA hsh hp
      generalize y / 2 ^ p % 256 = b at eb cr hr8 hb8 os
      generalize rev 8 b = r at cr hr8 os
      generalize R % 2 ^ p = A at os
      generalize hB : R % 2 ^ (8 * (k + 1)) = B at os
      have HB := Lib.hid hB
      have CR := Lib.hid cr
      clear hB cr
      go_wp2_with (first
        | (go_at_call 30; (with_reducible refine (CR.out _).mono ?_); rintro e w' ⟨rfl, rfl⟩) | (go_at_call 17; (with_reducible refine (s_Width _).mono ?_); rintro e w' ⟨rfl, rfl⟩))
      go_round
      case rel => exact ⟨p + 8, k + 1, by have := HP.out; omega, by omega, by go_num, by rw [show p + 8 = 8 * (k + 1) by have := HP.out; omega, HB.out]⟩
      case measure => simp [intOf]; omega
    · have hpn : p = 64 := by omega
      subst hpn
      rw [HR2.out]
      clear hp
      go_wp2_with (first
        | (go_at_call 20; (with_reducible refine (C2.out _).mono ?_); rintro e w' ⟨rfl, rfl⟩)
        | (go_at_call 22; (with_reducible refine (C3.out _).mono ?_); rintro e w' ⟨rfl, rfl⟩) | (go_at_call 17; (with_reducible refine (s_Width _).mono ?_); rintro e w' ⟨rfl, rfl⟩))
      go_ret
      first
        | exact ⟨rfl, Below.refl _ _⟩
        | exact ⟨rfl, below_drewN (Below.refl _ _) _⟩

set_option maxRecDepth 100000 in
theorem lifted (os : Os) (started : os.Started) (H : Type) (enc : TypeId × Value → H) :
    ReturnsInHanded {} Try.checked os 11 .any (Rows.fnBytesReversedSpec.pre6 enc Try.prog Try.f11 Rows.fnBytesReversedRow.domain false) (Rows.fnBytesReversedSpec.post enc Try.prog Try.f11 false true false false) := by
  refine returnsInHanded_of_change (C := Try.checked) own started (by kernel_rfl) Try.func11
    (ChangeSpec.witness6 (enc := enc) (C := Try.checked) false ⟨#[], #[.int .u64 0], []⟩ 8 (by kernel_rfl) (by kernel_rfl) (by kernel_rfl) (by kernel_rfl)) ?_
  intro W base args ds gs before hval0 hW hcnd _
  have hval : ∀ (j : Nat) t v, Try.f11.params[j]? = some t → args[j]? = some v → Value.okWide Try.prog W .any base t v := hval0
  have hW' := hW
  obtain ⟨p, q, hA0, hV, rfl, hfz, hnd⟩ := hW
  have hA : DataW.TrodAll enc Try.prog W 0 (fun _ => true) true Try.f11.params.toList args.toList ds p := hA0
  rw [Try.params11] at hA hval
  obtain ⟨v0, vs0, d0, ds0, p0, q0, hargs, rfl, rfl, h0, r0⟩ := trodAll_cons hA
  obtain ⟨rfl, rfl, rfl⟩ := trodAll_nil r0
  obtain rfl : args = #[v0] := by cases args; simp_all
  obtain ⟨rfl, rfl⟩ := trodVars_none hV
  obtain ⟨a0, rfl, rfl, rfl, w0⟩ := open_int Try.underlying22 (hval 0 22 v0 rfl rfl) h0
  have b0 := bounds_u64 w0
  obtain ⟨x0, rfl⟩ := Int.eq_ofNat_of_zero_le b0.1
  clear hA0 hval0
  refine (walk x0 (by omega) W).mono fun e W' ⟨he, bel⟩ => ?_
  subst he
  exact ⟨_, rfl, _, _, _, [], _, [], hW', trodAll_mk1 (shut_bool Try.underlying4 _), (trodAll_cons_mk (shut_int Try.underlying22 w0) trodAll_mk0), rfl, bel.frame _, fun h => by cases h⟩

theorem over : Rows.fnBytesReversedRow.holds Try.pinned (OpenSpec.ofChange Rows.fnBytesReversedSpec) :=
  OpenClaim.holds_of_wide 11 Try.f11 rfl rfl rfl rfl rfl rfl rfl ⟨rfl, rfl, rfl, rfl, rfl⟩ rfl rfl rfl rfl rfl (by kernel_rfl) Try.func11 (by kernel_rfl)
    (of_decide_eq_true (by kernel_rfl)) (by unfold Func.isWrapper; first | (rw [if_pos (by decide +kernel)]; kernel_rfl) | (rw [if_neg (by decide +kernel)]; exact ⟨rfl, rfl⟩))
    (fun os started H enc _ => lifted os started H enc)

/-- THE STATEMENT -/
theorem proved : Rows.FnBytesReversedSaid := over
#print axioms proved
end Go.Proofs.Ytbliimclmdigcaa.fnBytesReversed
