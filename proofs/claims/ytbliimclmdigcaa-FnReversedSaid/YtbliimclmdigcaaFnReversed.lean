/-
  PROVED: FnReversed: reversing twice gives the number again, keeps the ones, and turns and, or and complement into the same of the reversed ones. Its conditions: the given row's own, and no others.
-/
import Derived.Test.YtbliimclmdigcaaRows
import Derived.WalkKit
import Derived.ProofKit
import Derived.OpenShut
import Derived.Test.YtbliimclmdigcaaLib
namespace Go.Proofs.Ytbliimclmdigcaa.fnReversed
open Go.ChangeShapes Go.WideShapes Go.ChangeAt Go.RowKit Go.Lathe

theorem own : ownKnob Try.prog.godebug = none := by kernel_rfl
set_option maxHeartbeats 4000000 in
theorem core (x y r s p q t a : Nat) (w : World)
   (c1 : ∀ w, Calls Try.prog 22 #[.int .u64 x] w fun e w' => e = .returned (.int .u64 r) ∧ w = w')
   (c2 : ∀ w, Calls Try.prog 22 #[.int .u64 r] w fun e w' => e = .returned (.int .u64 x) ∧ w = w')
   (c3 : ∀ w, Calls Try.prog 28 #[.int .u64 r] w fun e w' => e = .returned (.int .i64 a) ∧ w = w')
   (c4 : ∀ w, Calls Try.prog 28 #[.int .u64 x] w fun e w' => e = .returned (.int .i64 a) ∧ w = w')
   (c5 : ∀ w, Calls Try.prog 22 #[.int .u64 (bits .and .u64 x y)] w fun e w' => e = .returned (.int .u64 p) ∧ w = w')
   (c6 : ∀ w, Calls Try.prog 22 #[.int .u64 (bits .or .u64 x y)] w fun e w' => e = .returned (.int .u64 q) ∧ w = w')
   (c7 : ∀ w, Calls Try.prog 22 #[.int .u64 (bits .xor .u64 IntKind.u64.max x)] w fun e w' => e = .returned (.int .u64 t) ∧ w = w')
   (c8 : ∀ w, Calls Try.prog 22 #[.int .u64 y] w fun e w' => e = .returned (.int .u64 s) ∧ w = w')
   (_e1 : bits .and .u64 (r : Int) (s : Int) = (p : Int)) (_e2 : bits .or .u64 (r : Int) (s : Int) = (q : Int)) (_e3 : bits .xor .u64 IntKind.u64.max (r : Int) = (t : Int))
   (_e4 : ((r : Int) == (s : Int)) = ((x : Int) == (y : Int))) :
    Calls Try.prog 13 #[.int .u64 x, .int .u64 y] w fun e w' => e = .returned (.bool true) ∧ Below w.heap.size w w' := by
  have C1 := Lib.hid c1; have C2 := Lib.hid c2; have C3 := Lib.hid c3; have C4 := Lib.hid c4; have C5 := Lib.hid c5; have C6 := Lib.hid c6; have C7 := Lib.hid c7; have C8 := Lib.hid c8
  clear c1 c2 c3 c4 c5 c6 c7 c8
  go_enter Try.func13, Try.ntmps13
  go_wp2_with (first
    | ((with_reducible refine wpList_slot ?_ _ 22 _ _ rfl ?_ enters_Reverse ?_); rfl; rfl; intro K hK; go_simp)
    | (go_at_call 22; (first | (with_reducible refine (C1.out _).mono ?_) | (with_reducible refine (C2.out _).mono ?_) | (with_reducible refine (C5.out _).mono ?_) | (with_reducible refine (C6.out _).mono ?_) | (with_reducible refine (C7.out _).mono ?_) | (with_reducible refine (C8.out _).mono ?_)); rintro e w' ⟨rfl, rfl⟩)
    | (go_at_call 28; (first | (with_reducible refine (C3.out _).mono ?_) | (with_reducible refine (C4.out _).mono ?_)); rintro e w' ⟨rfl, rfl⟩))
  go_ret
  first
    | exact ⟨rfl, Below.refl _ _⟩
    | exact ⟨rfl, below_drewN (Below.refl _ _) _⟩
theorem walk (x0 : Nat) (h0 : x0 < 18446744073709551616) (x1 : Nat) (h1 : x1 < 18446744073709551616) (w : World) :
    Calls Try.prog 13 #[.int .u64 x0, .int .u64 x1] w fun e w' => e = .returned (.bool true) ∧ Below w.heap.size w w' := by
  have r0 : rev 64 x0 < 18446744073709551616 := rev_lt 64 x0
  have r1 : rev 64 x1 < 18446744073709551616 := rev_lt 64 x1
  have c2 := i_Reverse (rev 64 x0) r0
  rw [rev_rev 64 x0 h0] at c2
  have c3 := i_OnesCount (rev 64 x0) r0
  rw [pc_rev] at c3
  have c5 := i_Reverse (x0 &&& x1) (Nat.lt_of_le_of_lt Nat.and_le_left h0)
  rw [← u64_and_nat x0 x1 h0 h1] at c5
  have c6 := i_Reverse (x0 ||| x1) (Nat.or_lt_two_pow (n := 64) h0 h1)
  rw [← u64_or_nat x0 x1 h0 h1] at c6
  have c7 := i_Reverse (18446744073709551615 - x0) (by omega)
  rw [← not_u64 x0 h0] at c7
  have e1 := u64_and_nat _ _ r0 r1
  rw [← rev_and] at e1
  have e2 := u64_or_nat _ _ r0 r1
  rw [← rev_or] at e2
  have e3 := not_u64 _ r0
  have f3 := rev_compl 64 x0 h0
  rw [show (2 : Nat) ^ 64 - 1 = 18446744073709551615 from rfl] at f3
  rw [← f3] at e3
  refine core x0 x1 _ _ _ _ _ _ w (i_Reverse x0 h0) c2 c3 (i_OnesCount x0 h0) c5 c6 c7 (i_Reverse x1 h1) e1 e2 e3 ?_
  have i := rev_inj 64 x0 x1 h0 h1
  rw [Bool.eq_iff_iff]
  simp only [beq_iff_eq]
  omega

set_option maxRecDepth 100000 in
theorem lifted (os : Os) (started : os.Started) (H : Type) (enc : TypeId × Value → H) :
    ReturnsInHanded {} Try.checked os 13 .any (Rows.fnReversedSpec.pre6 enc Try.prog Try.f13 Rows.fnReversedRow.domain false) (Rows.fnReversedSpec.post enc Try.prog Try.f13 false true false false) := by
  refine returnsInHanded_of_change (C := Try.checked) own started (by kernel_rfl) Try.func13
    (ChangeSpec.witness6 (enc := enc) (C := Try.checked) false ⟨#[], #[.int .u64 0, .int .u64 0], []⟩ 8 (by kernel_rfl) (by kernel_rfl) (by kernel_rfl) (by kernel_rfl)) ?_
  intro W base args ds gs before hval0 hW hcnd _
  have hval : ∀ (j : Nat) t v, Try.f13.params[j]? = some t → args[j]? = some v → Value.okWide Try.prog W .any base t v := hval0
  have hW' := hW
  obtain ⟨p, q, hA0, hV, rfl, hfz, hnd⟩ := hW
  have hA : DataW.TrodAll enc Try.prog W 0 (fun _ => true) true Try.f13.params.toList args.toList ds p := hA0
  rw [Try.params13] at hA hval
  obtain ⟨v0, vs0, d0, ds0, p0, q0, hargs, rfl, rfl, h0, r0⟩ := trodAll_cons hA
  obtain ⟨v1, vs1, d1, ds1, p1, q1, rfl, rfl, rfl, h1, r1⟩ := trodAll_cons r0
  obtain ⟨rfl, rfl, rfl⟩ := trodAll_nil r1
  obtain rfl : args = #[v0, v1] := by cases args; simp_all
  obtain ⟨rfl, rfl⟩ := trodVars_none hV
  obtain ⟨a0, rfl, rfl, rfl, w0⟩ := open_int Try.underlying22 (hval 0 22 v0 rfl rfl) h0
  obtain ⟨a1, rfl, rfl, rfl, w1⟩ := open_int Try.underlying22 (hval 1 22 v1 rfl rfl) h1
  have b0 := bounds_u64 w0
  obtain ⟨x0, rfl⟩ := Int.eq_ofNat_of_zero_le b0.1
  have b1 := bounds_u64 w1
  obtain ⟨x1, rfl⟩ := Int.eq_ofNat_of_zero_le b1.1
  clear hA0 hval0
  refine (walk x0 (by omega) x1 (by omega) W).mono fun e W' ⟨he, bel⟩ => ?_
  subst he
  exact ⟨_, rfl, _, _, _, [], _, [], hW', trodAll_mk1 (shut_bool Try.underlying4 _), (trodAll_cons_mk (shut_int Try.underlying22 w0) (trodAll_cons_mk (shut_int Try.underlying22 w1) trodAll_mk0)), rfl, bel.frame _, fun h => by cases h⟩

theorem over : Rows.fnReversedRow.holds Try.pinned (OpenSpec.ofChange Rows.fnReversedSpec) :=
  OpenClaim.holds_of_wide 13 Try.f13 rfl rfl rfl rfl rfl rfl rfl ⟨rfl, rfl, rfl, rfl, rfl⟩ rfl rfl rfl rfl rfl (by kernel_rfl) Try.func13 (by kernel_rfl)
    (of_decide_eq_true (by kernel_rfl)) (by unfold Func.isWrapper; first | (rw [if_pos (by decide +kernel)]; kernel_rfl) | (rw [if_neg (by decide +kernel)]; exact ⟨rfl, rfl⟩))
    (fun os started H enc _ => lifted os started H enc)

/-- THE STATEMENT -/
theorem proved : Rows.FnReversedSaid := over
#print axioms proved
end Go.Proofs.Ytbliimclmdigcaa.fnReversed
