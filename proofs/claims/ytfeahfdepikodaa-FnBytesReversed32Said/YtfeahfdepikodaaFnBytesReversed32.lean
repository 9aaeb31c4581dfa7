/-
  PROVED: FnBytesReversed32: reversing the bytes twice gives the number again; reversing the bits is reversing the bytes, and then the bits of each byte. Its conditions: the given row's own, and no others.
-/
import Derived.Test.YtfeahfdepikodaaRows
import Derived.WalkKit
import Derived.ProofKit
import Derived.OpenShut
import Derived.Test.YtfeahfdepikodaaLib
import Derived.Test.YtfeahfdepikodaaMore
namespace Go.Proofs.Ytfeahfdepikodaa.fnBytesReversed32
open Go.ChangeShapes Go.WideShapes Go.ChangeAt Go.RowKit Go.Lathe

theorem own : ownKnob Try.prog.godebug = none := by kernel_rfl
theorem or_step (A r p : Nat) (hA : A < 4294967296) (hr : r * 2 ^ p < 4294967296) : bits .or .u32 (A : Int) ((r : Int) * 2 ^ p % 4294967296) = ((A ||| r * 2 ^ p : Nat) : Int) := by
  have e : (r : Int) * 2 ^ p % 4294967296 = ((r * 2 ^ p : Nat) : Int) := by
    skip
    have e1 : (r : Int) * 2 ^ p = ((r * 2 ^ p : Nat) : Int) := by simp
    rw [e1]
    generalize r * 2 ^ p = q at hr ⊢
    omega
  rw [e, u32_or_nat A _ hA hr]
set_option maxHeartbeats 1000000 in
theorem walk (x0 : Nat) (h0 : x0 < 4294967296) (w : World) :
    Calls Try.prog 13 #[.int .u32 x0] w fun e w' => e = .returned (.bool true) ∧ Below w.heap.size w w' := by
  have c1 := i_ReverseBytes32 x0 h0
  have c2 := i_ReverseBytes32 (revB 32 x0) (revB_lt 32 x0)
  have rr := revB_revB 4 x0 h0
  rw [show 8 * 4 = 32 from rfl] at rr
  rw [rr] at c2
  have c3 := i_Reverse32 x0 h0
  have step : ∀ k, k < 4 → (rev 32 x0 % 2 ^ (8 * k)) ||| (rev 8 (revB 32 x0 / 2 ^ (8 * k) % 256) * 2 ^ (8 * k)) = rev 32 x0 % 2 ^ (8 * (k + 1)) := by
    intro k hk
    exact bytes_step 4 k x0 _ rfl hk
  have hR : rev 32 x0 < 4294967296 := rev_lt 32 x0
  have hR2 : rev 32 x0 % 2 ^ 32 = rev 32 x0 := Nat.mod_eq_of_lt (rev_lt 32 x0)
  have hy : revB 32 x0 < 4294967296 := revB_lt 32 x0
  clear rr h0
  generalize revB 32 x0 = y at c1 c2 step hy
  generalize rev 32 x0 = R at c3 step hR hR2
  have C1 := Lib.hid c1; have C2 := Lib.hid c2; have C3 := Lib.hid c3
  have STEP := Lib.hid step
  have HR := Lib.hid hR
  have HR2 := Lib.hid hR2
  clear c1 c2 c3 step hR hR2
  go_enter Try.func13, Try.ntmps13
  go_wp2_with (go_at_call 17; (with_reducible refine (C1.out _).mono ?_); rintro e w' ⟨rfl, rfl⟩)
  go_loop [4, 5] (fun a i => ∃ p k : Nat, p = 8 * k ∧ k ≤ 4 ∧ i = .int .i64 p ∧ a = .int .u32 ((R % 2 ^ p : Nat) : Int)) (fun _ i => 32 - (intOf i).toNat)
  case atStart => exact ⟨0, 0, rfl, by decide, rfl, by rw [Nat.pow_zero, Nat.mod_one]; rfl⟩
  case round =>
    obtain ⟨p, k, hp, hk, rfl, rfl⟩ := hrel
    by_cases hlt : k < 4
    · have hpn : p + 8 ≤ 32 := by omega
      have st := STEP.out k hlt
      rw [← hp] at st
      have hb8 : y / 2 ^ p % 256 < 256 := Nat.mod_lt _ (by decide)
      have hA : R % 2 ^ p < 4294967296 := Nat.lt_of_le_of_lt (Nat.mod_le _ _) HR.out
      have eb : (y : Int) / 2 ^ p % 256 = ((y / 2 ^ p % 256 : Nat) : Int) := by simp
      have cr := i_Reverse8 _ hb8
      have hr8 := rev8_lt (y / 2 ^ p % 256)
      have hsh : rev 8 (y / 2 ^ p % 256) * 2 ^ p < 4294967296 := by
        have h1 : rev 8 (y / 2 ^ p % 256) * 2 ^ p < 2 ^ 8 * 2 ^ p := Nat.mul_lt_mul_of_pos_right (rev_lt 8 _) (Nat.two_pow_pos _)
        rw [← Nat.pow_add] at h1
        have h2 := two_pow_le (8 + p) 32 (by omega)
        exact Nat.lt_of_lt_of_le h1 h2
      have os := or_step (R % 2 ^ p) _ p hA hsh
      rw [st] at os
      have HP := Lib.hid hp
      clear st hA hsh hp
      generalize y / 2 ^ p % 256 = b at eb cr hr8 hb8 os
      generalize rev 8 b = r at cr hr8 os
      generalize R % 2 ^ p = A at os
      generalize hB : R % 2 ^ (8 * (k + 1)) = B at os
      have HB := Lib.hid hB
      have CR := Lib.hid cr
      clear hB cr
      go_wp2_with (first
        | (go_at_call 27; (with_reducible refine (CR.out _).mono ?_); rintro e w' ⟨rfl, rfl⟩))
      go_round
      case rel => exact ⟨p + 8, k + 1, by have := HP.out; omega, by omega, by go_num, by rw [show p + 8 = 8 * (k + 1) by have := HP.out; omega, HB.out]⟩
      case measure => simp [intOf]; omega
    · have hpn : p = 32 := by omega
      subst hpn
      rw [HR2.out]
      clear hp
      go_wp2_with (first
        | (go_at_call 17; (with_reducible refine (C2.out _).mono ?_); rintro e w' ⟨rfl, rfl⟩)
        | (go_at_call 25; (with_reducible refine (C3.out _).mono ?_); rintro e w' ⟨rfl, rfl⟩))
      go_ret
      first
        | exact ⟨rfl, Below.refl _ _⟩
        | exact ⟨rfl, below_drewN (Below.refl _ _) _⟩

set_option maxRecDepth 100000 in
theorem lifted (os : Os) (started : os.Started) (H : Type) (enc : TypeId × Value → H) :
    ReturnsInHanded {} Try.checked os 13 .any (Rows.fnBytesReversed32Spec.pre6 enc Try.prog Try.f13 Rows.fnBytesReversed32Row.domain false) (Rows.fnBytesReversed32Spec.post enc Try.prog Try.f13 false true false false) := by
  refine returnsInHanded_of_change (C := Try.checked) own started (by kernel_rfl) Try.func13
    (ChangeSpec.witness6 (enc := enc) (C := Try.checked) false ⟨#[], #[.int .u32 0], []⟩ 8 (by kernel_rfl) (by kernel_rfl) (by kernel_rfl) (by kernel_rfl)) ?_
  intro W base args ds gs before hval0 hW hcnd _
  have hval : ∀ (j : Nat) t v, Try.f13.params[j]? = some t → args[j]? = some v → Value.okWide Try.prog W .any base t v := hval0
  have hW' := hW
  obtain ⟨p, q, hA0, hV, rfl, hfz, hnd⟩ := hW
  have hA : DataW.TrodAll enc Try.prog W 0 (fun _ => true) true Try.f13.params.toList args.toList ds p := hA0
  rw [Try.params13] at hA hval
  obtain ⟨v0, vs0, d0, ds0, p0, q0, hargs, rfl, rfl, h0, r0⟩ := trodAll_cons hA
  obtain ⟨rfl, rfl, rfl⟩ := trodAll_nil r0
  obtain rfl : args = #[v0] := by cases args; simp_all
  obtain ⟨rfl, rfl⟩ := trodVars_none hV
  obtain ⟨a0, rfl, rfl, rfl, w0⟩ := open_int Try.underlying22 (hval 0 22 v0 rfl rfl) h0
  have b0 := bounds_u32 w0
  obtain ⟨x0, rfl⟩ := Int.eq_ofNat_of_zero_le b0.1
  clear hA0 hval0
  refine (walk x0 (by omega) W).mono fun e W' ⟨he, bel⟩ => ?_
  subst he
  exact ⟨_, rfl, _, _, _, [], _, [], hW', trodAll_mk1 (shut_bool Try.underlying4 _), (trodAll_cons_mk (shut_int Try.underlying22 w0) trodAll_mk0), rfl, bel.frame _, fun h => by cases h⟩

theorem over : Rows.fnBytesReversed32Row.holds Try.pinned (OpenSpec.ofChange Rows.fnBytesReversed32Spec) :=
  OpenClaim.holds_of_wide 13 Try.f13 rfl rfl rfl rfl rfl rfl rfl ⟨rfl, rfl, rfl, rfl, rfl⟩ rfl rfl rfl rfl rfl (by kernel_rfl) Try.func13 (by kernel_rfl)
    (of_decide_eq_true (by kernel_rfl)) (by unfold Func.isWrapper; first | (rw [if_pos (by decide +kernel)]; kernel_rfl) | (rw [if_neg (by decide +kernel)]; exact ⟨rfl, rfl⟩))
    (fun os started H enc _ => lifted os started H enc)

/-- THE STATEMENT -/
theorem proved : Rows.FnBytesReversed32Said := over
#print axioms proved
end Go.Proofs.Ytfeahfdepikodaa.fnBytesReversed32
