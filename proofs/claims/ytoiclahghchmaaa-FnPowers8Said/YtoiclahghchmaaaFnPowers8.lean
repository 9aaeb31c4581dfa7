/-
  PROVED: FnPowers8: x has one bit that is one exactly if its length is one more than its zeros behind; the length of x - 1 is the least k for which 2 to the power of k is at least x. Its conditions: the given row's own, and no others.
-/
import Derived.Test.YtoiclahghchmaaaRows
import Derived.WalkKit
import Derived.ProofKit
import Derived.OpenShut
import Derived.Test.YtoiclahghchmaaaLib
import Derived.Test.YtoiclahghchmaaaMore
import Derived.Test.YtoiclahghchmaaaTz
namespace Go.Proofs.Ytoiclahghchmaaa.fnPowers8
open Go.ChangeShapes Go.WideShapes Go.ChangeAt Go.RowKit Go.Lathe

theorem own : ownKnob Try.prog.godebug = none := by kernel_rfl
set_option maxHeartbeats 1000000 in
theorem core (x a k n c p q : Nat) (w : World) (_hx : x < 256) (_h1 : 1 ≤ x) (_hk : k ≤ 8) (_hn : n ≤ 8) (_hn1 : 1 ≤ n) (_t0 : ((x : Int) == 0) = false)
   (c1 : ∀ w, Calls Try.prog 19 #[.int .u8 x] w fun e w' => e = .returned (.int .i64 a) ∧ w = w')
   (c2 : ∀ w, Calls Try.prog 17 #[.int .u8 ((x : Int) - 1)] w fun e w' => e = .returned (.int .i64 k) ∧ w = w')
   (c3 : ∀ w, Calls Try.prog 17 #[.int .u8 x] w fun e w' => e = .returned (.int .i64 n) ∧ w = w')
   (c4 : ∀ nq, Calls Try.prog 23 #[.int .u8 x] (w.drewN nq) fun e w' => e = .returned (.int .i64 c) ∧ w.drewN nq = w')
   (_e1 : 2 ^ k % 256 = (p : Int)) (_e2 : 1 ≤ k → 2 ^ (k - 1) % 256 = (q : Int))
   (_h : (((a : Int) == 1) = true ∧ ((n : Int) - 1 == (c : Int)) = true ∧ ((x : Int) == (p : Int)) = true ∧ ((k : Int) == 8) = false ∧ x ≤ p ∧ ((k : Int) == 0) = true) ∨
      (((a : Int) == 1) = true ∧ ((n : Int) - 1 == (c : Int)) = true ∧ ((x : Int) == (p : Int)) = true ∧ ((k : Int) == 8) = false ∧ x ≤ p ∧ ((k : Int) == 0) = false ∧ 1 ≤ k ∧ q < x) ∨
      (((a : Int) == 1) = false ∧ ((n : Int) - 1 == (c : Int)) = false ∧ ((x : Int) == (p : Int)) = false ∧ ((k : Int) == 8) = false ∧ x ≤ p ∧ ((k : Int) == 0) = false ∧ 1 ≤ k ∧ q < x) ∨
      (((a : Int) == 1) = false ∧ ((n : Int) - 1 == (c : Int)) = false ∧ ((x : Int) == (p : Int)) = false ∧ ((k : Int) == 8) = true ∧ ((k : Int) == 0) = false ∧ 1 ≤ k ∧ q < x)) :
    Calls Try.prog 13 #[.int .u8 x] w fun e w' => e = .returned (.bool true) ∧ Below w.heap.size w w' := by
  have C1 := Lib.hid c1; have C2 := Lib.hid c2; have C3 := Lib.hid c3; have C4 := Lib.hid c4
  clear c1 c2 c3 c4
  rcases _h with ⟨t1, t2, t3, t4, t5, t6⟩ | ⟨t1, t2, t3, t4, t5, t6, t7, t8⟩ | ⟨t1, t2, t3, t4, t5, t6, t7, t8⟩ | ⟨t1, t2, t3, t4, t6, t7, t8⟩
  · clear _e2
    go_enter Try.func13, Try.ntmps13
    go_wp2_with (first
      | (go_at_call 19; (with_reducible refine (C1.out _).mono ?_); rintro e w' ⟨rfl, rfl⟩)
      | (go_at_call 17; (first | (with_reducible refine (C2.out _).mono ?_) | (with_reducible refine (C3.out _).mono ?_)); rintro e w' ⟨rfl, rfl⟩)
      | (go_at_call 23; (first | (with_reducible refine (C4.out _).mono ?_) | (refine (C4.out 0).mono ?_)); rintro e w' ⟨rfl, rfl⟩))
    go_ret
    first
      | exact ⟨rfl, Below.refl _ _⟩
      | exact ⟨rfl, below_drewN (Below.refl _ _) _⟩
  all_goals
    have e2 := _e2 t7
    clear _e2
    go_enter Try.func13, Try.ntmps13
    go_wp2_with (first
      | (go_at_call 19; (with_reducible refine (C1.out _).mono ?_); rintro e w' ⟨rfl, rfl⟩)
      | (go_at_call 17; (first | (with_reducible refine (C2.out _).mono ?_) | (with_reducible refine (C3.out _).mono ?_)); rintro e w' ⟨rfl, rfl⟩)
      | (go_at_call 23; (first | (with_reducible refine (C4.out _).mono ?_) | (refine (C4.out 0).mono ?_)); rintro e w' ⟨rfl, rfl⟩))
    go_ret
    first
      | exact ⟨rfl, Below.refl _ _⟩
      | exact ⟨rfl, below_drewN (Below.refl _ _) _⟩
theorem core_zero (x a n : Nat) (w : World) (_t0 : ((x : Int) == 0) = true) (_t1 : ((a : Int) == 1) = false) (_hn : 0 < n)
   (c1 : ∀ w, Calls Try.prog 19 #[.int .u8 x] w fun e w' => e = .returned (.int .i64 a) ∧ w = w')
   (c2 : ∀ w, Calls Try.prog 17 #[.int .u8 (bits .xor .u8 IntKind.u8.max x)] w fun e w' => e = .returned (.int .i64 n) ∧ w = w') :
    Calls Try.prog 13 #[.int .u8 x] w fun e w' => e = .returned (.bool true) ∧ Below w.heap.size w w' := by
  have C1 := Lib.hid c1; have C2 := Lib.hid c2
  clear c1 c2
  go_enter Try.func13, Try.ntmps13
  go_wp2_with (first
    | (go_at_call 19; (with_reducible refine (C1.out _).mono ?_); rintro e w' ⟨rfl, rfl⟩)
    | (go_at_call 17; (with_reducible refine (C2.out _).mono ?_); rintro e w' ⟨rfl, rfl⟩))
  go_ret
  first
    | exact ⟨rfl, Below.refl _ _⟩
    | exact ⟨rfl, below_drewN (Below.refl _ _) _⟩
theorem walk (x0 : Nat) (h0 : x0 < 256) (w : World) :
    Calls Try.prog 13 #[.int .u8 x0] w fun e w' => e = .returned (.bool true) ∧ Below w.heap.size w w' := by
  by_cases hz : x0 = 0
  · have f6 : pc 8 x0 = 0 := by rw [hz]; exact pc_zero _
    have c2 := i_Len8 (255 - x0) (by omega)
    rw [← not_u8 x0 h0] at c2
    have : len (255 - x0) = 8 := by rw [hz]; exact len_eq 255 8 (lenIs_ones 8)
    exact core_zero x0 _ _ w (by simp; omega) (by simp; omega) (by omega) (i_OnesCount8 x0 h0) c2
  · obtain ⟨a1, a2, a3, a4, a5, a6, a7, a8⟩ := powers 8 x0 h0 hz
    have ln : len x0 ≤ 8 := len_le 8 x0 h0
    have c2 := i_Len8 (x0 - 1) (by omega)
    rw [show ((x0 - 1 : Nat) : Int) = (x0 : Int) - 1 by omega] at c2
    have c4 : ∀ nq, Calls Try.prog 23 #[.int .u8 x0] (w.drewN nq) fun e w' => e = .returned (.int .i64 (tz 8 x0)) ∧ w.drewN nq = w' := fun nq => i_TrailingZeros8 x0 h0 (w.drewN nq)
    refine core x0 (pc 8 x0) (len (x0 - 1)) (len x0) (tz 8 x0) _ _ w h0 (by omega) a5 ln a6 (by simp; omega) (i_OnesCount8 x0 h0) c2 (i_Len8 x0 h0) c4 (pk_u8 _ a5) (fun _ => pk1_u8 _ a5) ?_
    by_cases hk : len (x0 - 1) = 8
    · have h1 := a8 hk
      have h2 : ¬ len x0 - 1 = tz 8 x0 := fun e => h1 (a1.2 e)
      right; right; right
      rw [if_pos hk]
      refine ⟨by simp; omega, by simp; omega, by simp; omega, by simp; omega, by simp; omega, by omega, ?_⟩
      rcases a4 with a4 | a4
      · omega
      · exact a4
    · rw [if_neg hk]
      by_cases hp : pc 8 x0 = 1
      · have h2 := a1.1 hp
        have h3 := a2.1 hp
        by_cases hk0 : len (x0 - 1) = 0
        · left
          refine ⟨by simp; omega, by simp; omega, by simp only [beq_iff_eq]; omega, by simp; omega, by omega, by simp; omega⟩
        · right; left
          refine ⟨by simp; omega, by simp; omega, by simp only [beq_iff_eq]; omega, by simp; omega, by omega, by simp; omega, by omega, ?_⟩
          rcases a4 with a4 | a4
          · omega
          · omega
      · have h2 : ¬ len x0 - 1 = tz 8 x0 := fun e => hp (a1.2 e)
        have h3 : ¬ x0 = 2 ^ len (x0 - 1) := fun e => hp (a2.2 e)
        have hk0 : len (x0 - 1) ≠ 0 := fun e => hp (a7 e)
        right; right; left
        refine ⟨by simp; omega, by simp; omega, by rw [beq_eq_false_iff_ne]; omega, by simp; omega, by omega, by simp; omega, by omega, ?_⟩
        rcases a4 with a4 | a4
        · omega
        · omega

set_option maxRecDepth 100000 in
theorem lifted (os : Os) (started : os.Started) (H : Type) (enc : TypeId × Value → H) :
    ReturnsInHanded {} Try.checked os 13 .any (Rows.fnPowers8Spec.pre6 enc Try.prog Try.f13 Rows.fnPowers8Row.domain false) (Rows.fnPowers8Spec.post enc Try.prog Try.f13 false true false false) := by
  refine returnsInHanded_of_change (C := Try.checked) own started (by kernel_rfl) Try.func13
    (ChangeSpec.witness6 (enc := enc) (C := Try.checked) false ⟨#[], #[.int .u8 0], []⟩ 8 (by kernel_rfl) (by kernel_rfl) (by kernel_rfl) (by kernel_rfl)) ?_
  intro W base args ds gs before hval0 hW hcnd _
  have hval : ∀ (j : Nat) t v, Try.f13.params[j]? = some t → args[j]? = some v → Value.okWide Try.prog W .any base t v := hval0
  have hW' := hW
  obtain ⟨p, q, hA0, hV, rfl, hfz, hnd⟩ := hW
  have hA : DataW.TrodAll enc Try.prog W 0 (fun _ => true) true Try.f13.params.toList args.toList ds p := hA0
  rw [Try.params13] at hA hval
  obtain ⟨v0, vs0, d0, ds0, p0, q0, hargs, rfl, rfl, h0, r0⟩ := trodAll_cons hA
  obtain ⟨rfl, rfl, rfl⟩ := trodAll_nil r0
  obtain rfl : args = #[v0] := by cases args; simp_all
  obtain ⟨rfl, rfl⟩ := trodVars_none hV
  obtain ⟨a0, rfl, rfl, rfl, w0⟩ := open_int Try.underlying5 (hval 0 5 v0 rfl rfl) h0
  have b0 := bounds_u8 w0
  obtain ⟨x0, rfl⟩ := Int.eq_ofNat_of_zero_le b0.1
  clear hA0 hval0
  refine (walk x0 (by omega) W).mono fun e W' ⟨he, bel⟩ => ?_
  subst he
  exact ⟨_, rfl, _, _, _, [], _, [], hW', trodAll_mk1 (shut_bool Try.underlying4 _), (trodAll_cons_mk (shut_int Try.underlying5 w0) trodAll_mk0), rfl, bel.frame _, fun h => by cases h⟩

theorem over : Rows.fnPowers8Row.holds Try.pinned (OpenSpec.ofChange Rows.fnPowers8Spec) :=
  OpenClaim.holds_of_wide 13 Try.f13 rfl rfl rfl rfl rfl rfl rfl ⟨rfl, rfl, rfl, rfl, rfl⟩ rfl rfl rfl rfl rfl (by kernel_rfl) Try.func13 (by kernel_rfl)
    (of_decide_eq_true (by kernel_rfl)) (by unfold Func.isWrapper; first | (rw [if_pos (by decide +kernel)]; kernel_rfl) | (rw [if_neg (by decide +kernel)]; exact ⟨rfl, rfl⟩))
    (fun os started H enc _ => lifted os started H enc)

/-- THE STATEMENT -/
theorem proved : Rows.FnPowers8Said := over
#print axioms proved
end Go.Proofs.Ytoiclahghchmaaa.fnPowers8
