/-
  PROVED: Fn Ones : the number of ones: of a number and its complement together all; of two numbers as many as of both at once and of either; the inequality of triangles; the lowest one taken away leaves one less. Its conditions: the given row's own, and no others.
-/
import Derived.Test.YtbliimclmdigcaaRows
import Derived.WalkKit
import Derived.ProofKit
import Derived.OpenShut
import Derived.Test.YtbliimclmdigcaaLib
namespace Go.Proofs.Ytbliimclmdigcaa.fnOnes
open Go.ChangeShapes Go.WideShapes Go.ChangeAt Go.RowKit Go.Lathe

theorem own : ownKnob Try.prog.godebug = none := by kernel_rfl
set_option maxHeartbeats 4000000 in
theorem core_some (x0 x1 x2 : Nat) (w : World) (_hz : 1 ≤ x0) (_h0 : x0 < 18446744073709551616)
   (a na b aob aab axb axc bxc ac : Nat)
   (c1 : ∀ w, Calls Try.prog 28 #[.int .u64 x0] w fun e w' => e = .returned (.int .i64 a) ∧ w = w')
   (c2 : ∀ w, Calls Try.prog 28 #[.int .u64 x1] w fun e w' => e = .returned (.int .i64 b) ∧ w = w')
   (c3 : ∀ w, Calls Try.prog 28 #[.int .u64 (bits .xor .u64 IntKind.u64.max x0)] w fun e w' => e = .returned (.int .i64 na) ∧ w = w')
   (c4 : ∀ w, Calls Try.prog 28 #[.int .u64 (bits .and .u64 x0 x1)] w fun e w' => e = .returned (.int .i64 aab) ∧ w = w')
   (c5 : ∀ w, Calls Try.prog 28 #[.int .u64 (bits .or .u64 x0 x1)] w fun e w' => e = .returned (.int .i64 aob) ∧ w = w')
   (c6 : ∀ w, Calls Try.prog 28 #[.int .u64 (bits .xor .u64 x0 x1)] w fun e w' => e = .returned (.int .i64 axb) ∧ w = w')
   (c7 : ∀ w, Calls Try.prog 28 #[.int .u64 (bits .xor .u64 x0 x2)] w fun e w' => e = .returned (.int .i64 axc) ∧ w = w')
   (c8 : ∀ w, Calls Try.prog 28 #[.int .u64 (bits .xor .u64 x1 x2)] w fun e w' => e = .returned (.int .i64 bxc) ∧ w = w')
   (c9 : ∀ w, Calls Try.prog 28 #[.int .u64 (bits .and .u64 x0 ((x0 : Int) - 1))] w fun e w' => e = .returned (.int .i64 ac) ∧ w = w')
   (_l1 : a ≤ 64) (_l2 : b ≤ 64) (_l3 : na ≤ 64) (_l4 : aab ≤ 64) (_l5 : aob ≤ 64) (_l6 : axb ≤ 64) (_l8 : bxc ≤ 64)
   (_t0 : ((x0 : Int) == 0) = false)
   (_t1 : ((a : Int) + (na : Int) == 64) = true)
   (_t2 : ((a : Int) + (b : Int) == (aab : Int) + (aob : Int)) = true)
   (_t3 : ((a : Int) + (b : Int) == (axb : Int) + 2 * (aab : Int)) = true)
   (_t4 : decide ((axc : Int) ≤ (axb : Int) + (bxc : Int)) = true)
   (_t5 : ((a : Int) == 0) = false)
   (_t6 : ((ac : Int) == (a : Int) - 1) = true) :
    Calls Try.prog 14 #[.int .u64 x0, .int .u64 x1, .int .u64 x2] w fun e w' => e = .returned (.bool true) ∧ Below w.heap.size w w' := by
  have C1 := Lib.hid c1; have C2 := Lib.hid c2; have C3 := Lib.hid c3; have C4 := Lib.hid c4; have C5 := Lib.hid c5; have C6 := Lib.hid c6; have C7 := Lib.hid c7; have C8 := Lib.hid c8; have C9 := Lib.hid c9
  clear c1 c2 c3 c4 c5 c6 c7 c8 c9
  go_enter Try.func14, Try.ntmps14
  go_wp2_with (first
    | ((with_reducible refine wpList_slot ?_ _ 28 _ _ rfl ?_ enters_OnesCount ?_); rfl; rfl; intro K hK; go_simp)
    | (go_at_call 28; (first | (with_reducible refine (i_OnesCount_max _).mono ?_) | (with_reducible refine (i_OnesCount_zero _).mono ?_) | (with_reducible refine (C1.out _).mono ?_) | (with_reducible refine (C2.out _).mono ?_) | (with_reducible refine (C3.out _).mono ?_) | (with_reducible refine (C4.out _).mono ?_) | (with_reducible refine (C5.out _).mono ?_) | (with_reducible refine (C6.out _).mono ?_) | (with_reducible refine (C7.out _).mono ?_) | (with_reducible refine (C8.out _).mono ?_) | (with_reducible refine (C9.out _).mono ?_)); rintro e w' ⟨rfl, rfl⟩)
    | (go_at_call 24; (with_reducible refine (i_Len_max _).mono ?_); rintro e w' ⟨rfl, rfl⟩))
  go_ret
  first
    | exact ⟨rfl, Below.refl _ _⟩
    | exact ⟨rfl, below_drewN (Below.refl _ _) _⟩
set_option maxHeartbeats 4000000 in
theorem core_none (x0 x1 x2 : Nat) (w : World)
   (a na b aob aab axb axc bxc : Nat)
   (c1 : ∀ w, Calls Try.prog 28 #[.int .u64 x0] w fun e w' => e = .returned (.int .i64 a) ∧ w = w')
   (c2 : ∀ w, Calls Try.prog 28 #[.int .u64 x1] w fun e w' => e = .returned (.int .i64 b) ∧ w = w')
   (c3 : ∀ w, Calls Try.prog 28 #[.int .u64 (bits .xor .u64 IntKind.u64.max x0)] w fun e w' => e = .returned (.int .i64 na) ∧ w = w')
   (c4 : ∀ w, Calls Try.prog 28 #[.int .u64 (bits .and .u64 x0 x1)] w fun e w' => e = .returned (.int .i64 aab) ∧ w = w')
   (c5 : ∀ w, Calls Try.prog 28 #[.int .u64 (bits .or .u64 x0 x1)] w fun e w' => e = .returned (.int .i64 aob) ∧ w = w')
   (c6 : ∀ w, Calls Try.prog 28 #[.int .u64 (bits .xor .u64 x0 x1)] w fun e w' => e = .returned (.int .i64 axb) ∧ w = w')
   (c7 : ∀ w, Calls Try.prog 28 #[.int .u64 (bits .xor .u64 x0 x2)] w fun e w' => e = .returned (.int .i64 axc) ∧ w = w')
   (c8 : ∀ w, Calls Try.prog 28 #[.int .u64 (bits .xor .u64 x1 x2)] w fun e w' => e = .returned (.int .i64 bxc) ∧ w = w')
   (_l1 : a ≤ 64) (_l2 : b ≤ 64) (_l3 : na ≤ 64) (_l4 : aab ≤ 64) (_l5 : aob ≤ 64) (_l6 : axb ≤ 64) (_l8 : bxc ≤ 64)
   (_t0 : ((x0 : Int) == 0) = true)
   (_t1 : ((a : Int) + (na : Int) == 64) = true)
   (_t2 : ((a : Int) + (b : Int) == (aab : Int) + (aob : Int)) = true)
   (_t3 : ((a : Int) + (b : Int) == (axb : Int) + 2 * (aab : Int)) = true)
   (_t4 : decide ((axc : Int) ≤ (axb : Int) + (bxc : Int)) = true)
   (_t5 : ((a : Int) == 0) = true) :
    Calls Try.prog 14 #[.int .u64 x0, .int .u64 x1, .int .u64 x2] w fun e w' => e = .returned (.bool true) ∧ Below w.heap.size w w' := by
  have C1 := Lib.hid c1; have C2 := Lib.hid c2; have C3 := Lib.hid c3; have C4 := Lib.hid c4; have C5 := Lib.hid c5; have C6 := Lib.hid c6; have C7 := Lib.hid c7; have C8 := Lib.hid c8
  clear c1 c2 c3 c4 c5 c6 c7 c8
  go_enter Try.func14, Try.ntmps14
  go_wp2_with (first
    | ((with_reducible refine wpList_slot ?_ _ 28 _ _ rfl ?_ enters_OnesCount ?_); rfl; rfl; intro K hK; go_simp)
    | (go_at_call 28; (first | (with_reducible refine (i_OnesCount_max _).mono ?_) | (with_reducible refine (i_OnesCount_zero _).mono ?_) | (with_reducible refine (C1.out _).mono ?_) | (with_reducible refine (C2.out _).mono ?_) | (with_reducible refine (C3.out _).mono ?_) | (with_reducible refine (C4.out _).mono ?_) | (with_reducible refine (C5.out _).mono ?_) | (with_reducible refine (C6.out _).mono ?_) | (with_reducible refine (C7.out _).mono ?_) | (with_reducible refine (C8.out _).mono ?_)); rintro e w' ⟨rfl, rfl⟩)
    | (go_at_call 24; (with_reducible refine (i_Len_max _).mono ?_); rintro e w' ⟨rfl, rfl⟩))
  go_ret
  first
    | exact ⟨rfl, Below.refl _ _⟩
    | exact ⟨rfl, below_drewN (Below.refl _ _) _⟩
theorem walk (x0 : Nat) (h0 : x0 < 18446744073709551616) (x1 : Nat) (h1 : x1 < 18446744073709551616) (x2 : Nat) (h2 : x2 < 18446744073709551616) (w : World) :
    Calls Try.prog 14 #[.int .u64 x0, .int .u64 x1, .int .u64 x2] w fun e w' => e = .returned (.bool true) ∧ Below w.heap.size w w' := by
  have f1 := pc_compl 64 x0 h0
  rw [show (2 : Nat) ^ 64 - 1 = 18446744073709551615 from rfl] at f1
  have f2 := pc_and_or 64 x0 x1
  have f3 := pc_xor 64 x0 x1
  have f4 := pc_tri 64 x0 x1 x2
  have l1 := pc_le 64 x0
  have l2 := pc_le 64 x1
  have l3 := pc_le 64 (18446744073709551615 - x0)
  have l4 := pc_le 64 (x0 &&& x1)
  have l5 := pc_le 64 (x0 ||| x1)
  have l6 := pc_le 64 (x0 ^^^ x1)
  have l8 := pc_le 64 (x1 ^^^ x2)
  have c1 := i_OnesCount x0 h0
  have c2 := i_OnesCount x1 h1
  have c3 := i_OnesCount (18446744073709551615 - x0) (by omega)
  rw [← not_u64 x0 h0] at c3
  have c4 := i_OnesCount (x0 &&& x1) (Nat.lt_of_le_of_lt Nat.and_le_left h0)
  rw [← u64_and_nat x0 x1 h0 h1] at c4
  have c5 := i_OnesCount (x0 ||| x1) (Nat.or_lt_two_pow (n := 64) h0 h1)
  rw [← u64_or_nat x0 x1 h0 h1] at c5
  have c6 := i_OnesCount (x0 ^^^ x1) (Nat.xor_lt_two_pow (n := 64) h0 h1)
  rw [← u64_xor_nat x0 x1 h0 h1] at c6
  have c7 := i_OnesCount (x0 ^^^ x2) (Nat.xor_lt_two_pow (n := 64) h0 h2)
  rw [← u64_xor_nat x0 x2 h0 h2] at c7
  have c8 := i_OnesCount (x1 ^^^ x2) (Nat.xor_lt_two_pow (n := 64) h1 h2)
  rw [← u64_xor_nat x1 x2 h1 h2] at c8
  by_cases hz : x0 = 0
  · have f6 : pc 64 x0 = 0 := by rw [hz]; exact pc_zero _
    exact core_none x0 x1 x2 w _ _ _ _ _ _ _ _ c1 c2 c3 c4 c5 c6 c7 c8 (by omega) (by omega) (by omega) (by omega) (by omega) (by omega) (by omega)
      (by simp; omega) (by simp; omega) (by simp; omega) (by simp; omega) (by simp; omega) (by simp; omega)
  · have f5 := pc_clear 64 x0 h0 hz
    have f6 : pc 64 x0 ≠ 0 := fun h => hz ((pc_eq_zero 64 x0 h0).1 h)
    have c9 := i_OnesCount (x0 &&& (x0 - 1)) (Nat.lt_of_le_of_lt Nat.and_le_left h0)
    rw [← u64_and_nat x0 (x0 - 1) h0 (by omega), show ((x0 - 1 : Nat) : Int) = (x0 : Int) - 1 by omega] at c9
    exact core_some x0 x1 x2 w (by omega) h0 _ _ _ _ _ _ _ _ _ c1 c2 c3 c4 c5 c6 c7 c8 c9 (by omega) (by omega) (by omega) (by omega) (by omega) (by omega) (by omega)
      (by simp; omega) (by simp; omega) (by simp; omega) (by simp; omega) (by simp; omega) (by simp; omega) (by simp; omega)

set_option maxRecDepth 100000 in
theorem lifted (os : Os) (started : os.Started) (H : Type) (enc : TypeId × Value → H) :
    ReturnsInHanded {} Try.checked os 14 .any (Rows.fnOnesSpec.pre6 enc Try.prog Try.f14 Rows.fnOnesRow.domain false) (Rows.fnOnesSpec.post enc Try.prog Try.f14 false true false false) := by
  refine returnsInHanded_of_change (C := Try.checked) own started (by kernel_rfl) Try.func14
    (ChangeSpec.witness6 (enc := enc) (C := Try.checked) false ⟨#[], #[.int .u64 0, .int .u64 0, .int .u64 0], []⟩ 8 (by kernel_rfl) (by kernel_rfl) (by kernel_rfl) (by kernel_rfl)) ?_
  intro W base args ds gs before hval0 hW hcnd _
  have hval : ∀ (j : Nat) t v, Try.f14.params[j]? = some t → args[j]? = some v → Value.okWide Try.prog W .any base t v := hval0
  have hW' := hW
  obtain ⟨p, q, hA0, hV, rfl, hfz, hnd⟩ := hW
  have hA : DataW.TrodAll enc Try.prog W 0 (fun _ => true) true Try.f14.params.toList args.toList ds p := hA0
  rw [Try.params14] at hA hval
  obtain ⟨v0, vs0, d0, ds0, p0, q0, hargs, rfl, rfl, h0, r0⟩ := trodAll_cons hA
  obtain ⟨v1, vs1, d1, ds1, p1, q1, rfl, rfl, rfl, h1, r1⟩ := trodAll_cons r0
  obtain ⟨v2, vs2, d2, ds2, p2, q2, rfl, rfl, rfl, h2, r2⟩ := trodAll_cons r1
  obtain ⟨rfl, rfl, rfl⟩ := trodAll_nil r2
  obtain rfl : args = #[v0, v1, v2] := by cases args; simp_all
  obtain ⟨rfl, rfl⟩ := trodVars_none hV
  obtain ⟨a0, rfl, rfl, rfl, w0⟩ := open_int Try.underlying22 (hval 0 22 v0 rfl rfl) h0
  obtain ⟨a1, rfl, rfl, rfl, w1⟩ := open_int Try.underlying22 (hval 1 22 v1 rfl rfl) h1
  obtain ⟨a2, rfl, rfl, rfl, w2⟩ := open_int Try.underlying22 (hval 2 22 v2 rfl rfl) h2
  have b0 := bounds_u64 w0
  obtain ⟨x0, rfl⟩ := Int.eq_ofNat_of_zero_le b0.1
  have b1 := bounds_u64 w1
  obtain ⟨x1, rfl⟩ := Int.eq_ofNat_of_zero_le b1.1
  have b2 := bounds_u64 w2
  obtain ⟨x2, rfl⟩ := Int.eq_ofNat_of_zero_le b2.1
  clear hA0 hval0
  refine (walk x0 (by omega) x1 (by omega) x2 (by omega) W).mono fun e W' ⟨he, bel⟩ => ?_
  subst he
  exact ⟨_, rfl, _, _, _, [], _, [], hW', trodAll_mk1 (shut_bool Try.underlying4 _), (trodAll_cons_mk (shut_int Try.underlying22 w0) (trodAll_cons_mk (shut_int Try.underlying22 w1) (trodAll_cons_mk (shut_int Try.underlying22 w2) trodAll_mk0))), rfl, bel.frame _, fun h => by cases h⟩

theorem over : Rows.fnOnesRow.holds Try.pinned (OpenSpec.ofChange Rows.fnOnesSpec) :=
  OpenClaim.holds_of_wide 14 Try.f14 rfl rfl rfl rfl rfl rfl rfl ⟨rfl, rfl, rfl, rfl, rfl⟩ rfl rfl rfl rfl rfl (by kernel_rfl) Try.func14 (by kernel_rfl)
    (of_decide_eq_true (by kernel_rfl)) (by unfold Func.isWrapper; first | (rw [if_pos (by decide +kernel)]; kernel_rfl) | (rw [if_neg (by decide +kernel)]; exact ⟨rfl, rfl⟩))
    (fun os started H enc _ => lifted os started H enc)

/-- THE STATEMENT -/
theorem proved : Rows.FnOnesSaid := over
#print axioms proved
end Go.Proofs.Ytbliimclmdigcaa.fnOnes
