/-
  PROVED: FnLowest8: the zeros behind the lowest one bit are as many as ahead of the highest one of the reversed number; x and its negative number have just this bit in common; as many ones are in the number one less than it. Its conditions: the given row's own, and no others.
-/
import Derived.Test.YtoiclahghchmaaaRows
import Derived.WalkKit
import Derived.ProofKit
import Derived.OpenShut
import Derived.Test.YtoiclahghchmaaaLib
import Derived.Test.YtoiclahghchmaaaMore
import Derived.Test.YtoiclahghchmaaaTz
namespace Go.Proofs.Ytoiclahghchmaaa.fnLowest8
open Go.ChangeShapes Go.WideShapes Go.ChangeAt Go.RowKit Go.Lathe

theorem own : ownKnob Try.prog.godebug = none := by kernel_rfl
set_option maxHeartbeats 1000000 in
theorem core (x c r l q : Nat) (w : World) (_hc : c ≤ 8)
   (c1 : Calls Try.prog 23 #[.int .u8 x] w fun e w' => e = .returned (.int .i64 c) ∧ w = w')
   (c2 : ∀ w, Calls Try.prog 21 #[.int .u8 x] w fun e w' => e = .returned (.int .u8 r) ∧ w = w')
   (c3 : ∀ w, Calls Try.prog 25 #[.int .u8 r] w fun e w' => e = .returned (.int .i64 c) ∧ w = w')
   (c4 : ∀ w, Calls Try.prog 19 #[.int .u8 q] w fun e w' => e = .returned (.int .i64 c) ∧ w = w')
   (_e1 : bits .and .u8 (x : Int) (-(x : Int) % 256) = (l : Int))
   (_e2 : IntKind.u8.wrap ((l : Int) - 1) = (q : Int)) (_e3 : ((l : Int) - 1) % 256 = (q : Int))
   (_h : ((x : Int) == 0) = true ∨ ((x : Int) == 0) = false ∧ 2 ^ c % 256 = (l : Int)) :
    Calls Try.prog 14 #[.int .u8 x] w fun e w' => e = .returned (.bool true) ∧ Below w.heap.size w w' := by
  have C1 := Lib.hid c1; have C2 := Lib.hid c2; have C3 := Lib.hid c3; have C4 := Lib.hid c4
  clear c1 c2 c3 c4
  rcases _h with hz | ⟨hz, hp⟩
  all_goals
    go_enter Try.func14, Try.ntmps14
    go_wp2_with (first
      | (go_at_call 23; (with_reducible refine C1.out.mono ?_); rintro e w' ⟨rfl, rfl⟩)
      | (go_at_call 21; (with_reducible refine (C2.out _).mono ?_); rintro e w' ⟨rfl, rfl⟩)
      | (go_at_call 25; (with_reducible refine (C3.out _).mono ?_); rintro e w' ⟨rfl, rfl⟩)
      | (go_at_call 19; (with_reducible refine (C4.out _).mono ?_); rintro e w' ⟨rfl, rfl⟩))
    go_ret
    first
      | exact ⟨rfl, Below.refl _ _⟩
      | exact ⟨rfl, below_drewN (Below.refl _ _) _⟩
theorem walk (x0 : Nat) (h0 : x0 < 256) (w : World) :
    Calls Try.prog 14 #[.int .u8 x0] w fun e w' => e = .returned (.bool true) ∧ Below w.heap.size w w' := by
  have hc : tz 8 x0 ≤ 8 := tz_le 8 x0 h0
  have c3 := i_LeadingZeros8 (rev 8 x0) (rev_lt 8 x0)
  rw [len_rev_tz 8 x0 h0, show (8 : Int) - ((8 - tz 8 x0 : Nat) : Int) = (tz 8 x0 : Int) by omega] at c3
  have hl : (if x0 = 0 then 0 else 2 ^ tz 8 x0) < 256 := by
    split
    · decide
    · exact two_pow_lt _ 8 (tz_low 8 x0 (by assumption) h0).2
  have hp := pred_u8 _ hl
  have hq : (if (if x0 = 0 then 0 else 2 ^ tz 8 x0) = 0 then 255 else (if x0 = 0 then 0 else 2 ^ tz 8 x0) - 1) = 2 ^ tz 8 x0 - 1 := by
    by_cases hz : x0 = 0
    · subst hz; rw [tz_zero]; rfl
    · have := Nat.two_pow_pos (tz 8 x0)
      rw [if_neg hz, if_neg (by omega)]
  rw [hq] at hp
  have lq : 2 ^ tz 8 x0 - 1 < 256 := by
    have := two_pow_le _ 8 hc
    rw [show (2 : Nat) ^ 8 = 256 from rfl] at this
    have := Nat.two_pow_pos (tz 8 x0)
    omega
  have c4 := i_OnesCount8 (2 ^ tz 8 x0 - 1) lq
  rw [pc_pow_pred 8 _ hc] at c4
  have hp' : IntKind.u8.wrap (((if x0 = 0 then 0 else 2 ^ tz 8 x0 : Nat) : Int) - 1) = ((2 ^ tz 8 x0 - 1 : Nat) : Int) := by
    first
      | exact hp
      | (rw [wrapw_u8]; exact hp)
  refine core x0 (tz 8 x0) _ _ _ w hc (i_TrailingZeros8 x0 h0 w) (i_Reverse8 x0 h0) c3 c4 (low_u8 x0 h0) hp' hp ?_
  by_cases hz : x0 = 0
  · left; simp; omega
  · right
    refine ⟨by simp; omega, ?_⟩
    rw [if_neg hz]
    exact pow_u8 _ (tz_low 8 x0 hz h0).2

set_option maxRecDepth 100000 in
theorem lifted (os : Os) (started : os.Started) (H : Type) (enc : TypeId × Value → H) :
    ReturnsInHanded {} Try.checked os 14 .any (Rows.fnLowest8Spec.pre6 enc Try.prog Try.f14 Rows.fnLowest8Row.domain false) (Rows.fnLowest8Spec.post enc Try.prog Try.f14 false true false false) := by
  refine returnsInHanded_of_change (C := Try.checked) own started (by kernel_rfl) Try.func14
    (ChangeSpec.witness6 (enc := enc) (C := Try.checked) false ⟨#[], #[.int .u8 0], []⟩ 8 (by kernel_rfl) (by kernel_rfl) (by kernel_rfl) (by kernel_rfl)) ?_
  intro W base args ds gs before hval0 hW hcnd _
  have hval : ∀ (j : Nat) t v, Try.f14.params[j]? = some t → args[j]? = some v → Value.okWide Try.prog W .any base t v := hval0
  have hW' := hW
  obtain ⟨p, q, hA0, hV, rfl, hfz, hnd⟩ := hW
  have hA : DataW.TrodAll enc Try.prog W 0 (fun _ => true) true Try.f14.params.toList args.toList ds p := hA0
  rw [Try.params14] at hA hval
  obtain ⟨v0, vs0, d0, ds0, p0, q0, hargs, rfl, rfl, h0, r0⟩ := trodAll_cons hA
  obtain ⟨rfl, rfl, rfl⟩ := trodAll_nil r0
  obtain rfl : args = #[v0] := by cases args; simp_all
  obtain ⟨rfl, rfl⟩ := trodVars_none hV
  obtain ⟨a0, rfl, rfl, rfl, w0⟩ := open_int Try.underlying5 (hval 0 5 v0 rfl rfl) h0
  have b0 := bounds_u8 w0
  obtain ⟨x0, rfl⟩ := Int.eq_ofNat_of_zero_le b0.1
  clear hA0 hval0
  refine (walk x0 (by omega) W).mono fun e W' ⟨he, bel⟩ => ?_
  subst he
  exact ⟨_, rfl, _, _, _, [], _, [], hW', trodAll_mk1 (shut_bool Try.underlying4 _), (trodAll_cons_mk (shut_int Try.underlying5 w0) trodAll_mk0), rfl, bel.frame _, fun h => by cases h⟩

theorem over : Rows.fnLowest8Row.holds Try.pinned (OpenSpec.ofChange Rows.fnLowest8Spec) :=
  OpenClaim.holds_of_wide 14 Try.f14 rfl rfl rfl rfl rfl rfl rfl ⟨rfl, rfl, rfl, rfl, rfl⟩ rfl rfl rfl rfl rfl (by kernel_rfl) Try.func14 (by kernel_rfl)
    (of_decide_eq_true (by kernel_rfl)) (by unfold Func.isWrapper; first | (rw [if_pos (by decide +kernel)]; kernel_rfl) | (rw [if_neg (by decide +kernel)]; exact ⟨rfl, rfl⟩))
    (fun os started H enc _ => lifted os started H enc)

/-- THE STATEMENT -/
theorem proved : Rows.FnLowest8Said := over
#print axioms proved
end Go.Proofs.Ytoiclahghchmaaa.fnLowest8
