/-
  PROVED: FnTurnedIndex: on the numbers below 2 to the power of n, turning the lowest n bits round is a map that is its own inverse. Its conditions: the given row's own, and no others.
-/
import Derived.Test.YthknhfekfieedaaRows
import Derived.WalkKit
import Derived.ProofKit
import Derived.OpenShut
import Derived.Test.YthknhfekfieedaaLib
import Derived.Test.YthknhfekfieedaaMore
namespace Go.Proofs.Ythknhfekfieedaa.fnTurnedIndex
open Go.ChangeShapes Go.WideShapes Go.ChangeAt Go.RowKit Go.Lathe

theorem own : ownKnob Try.prog.godebug = none := by kernel_rfl
set_option maxHeartbeats 1000000 in
theorem core (x K m X Y r1 r2 l a : Nat) (w : World) (_hK : K < 18446744073709551616) (_e0 : (K : Int) % 64 = (m : Int)) (_hm : m < 64) (_hl : l ≤ m + 1)
   (c1 : ∀ w, Calls Try.prog 14 #[.int .u64 X] w fun e w' => e = .returned (.int .u64 r1) ∧ w = w')
   (c2 : ∀ w, Calls Try.prog 14 #[.int .u64 Y] w fun e w' => e = .returned (.int .u64 r2) ∧ w = w')
   (c3 : ∀ w, Calls Try.prog 14 #[.int .u64 1] w fun e w' => e = .returned (.int .u64 9223372036854775808) ∧ w = w')
   (c4 : ∀ w, Calls Try.prog 13 #[.int .u64 Y] w fun e w' => e = .returned (.int .i64 l) ∧ w = w')
   (c5 : ∀ w, Calls Try.prog 12 #[.int .u64 Y] w fun e w' => e = .returned (.int .i64 a) ∧ w = w')
   (c6 : ∀ w, Calls Try.prog 12 #[.int .u64 X] w fun e w' => e = .returned (.int .i64 a) ∧ w = w')
   (_e1 : IntKind.u64.wrap ((x : Int) * 2 ^ (63 - m)) / 2 ^ (63 - m) = (X : Int))
   (_e2 : (r1 : Int) / 2 ^ (63 - m) = (Y : Int)) (_e3 : (r2 : Int) / 2 ^ (63 - m) = (X : Int)) :
    Calls Try.prog 7 #[.int .u64 x, .int .u64 K] w fun e w' => e = .returned (.bool true) ∧ Below w.heap.size w w' := by
  have C1 := Lib.hid c1; have C2 := Lib.hid c2; have C3 := Lib.hid c3; have C4 := Lib.hid c4; have C5 := Lib.hid c5; have C6 := Lib.hid c6
  clear c1 c2 c3 c4 c5 c6
  go_enter Try.func7, Try.ntmps7
  go_wp2_with (first
    | (go_at_call 14; (first | (with_reducible refine (C1.out _).mono ?_) | (with_reducible refine (C2.out _).mono ?_) | (with_reducible refine (C3.out _).mono ?_)); rintro e w' ⟨rfl, rfl⟩)
    | (go_at_call 13; (with_reducible refine (C4.out _).mono ?_); rintro e w' ⟨rfl, rfl⟩)
    | (go_at_call 12; (first | (with_reducible refine (C5.out _).mono ?_) | (with_reducible refine (C6.out _).mono ?_)); rintro e w' ⟨rfl, rfl⟩))
  go_ret
  exact ⟨rfl, Below.refl _ _⟩
theorem rev_one : rev 64 1 = 9223372036854775808 := by decide +kernel
theorem walk (x0 : Nat) (_h0 : x0 < 18446744073709551616) (x1 : Nat) (h1 : x1 < 18446744073709551616) (w : World) :
    Calls Try.prog 7 #[.int .u64 x0, .int .u64 x1] w fun e w' => e = .returned (.bool true) ∧ Below w.heap.size w w' := by
  have hm : x1 % 64 < 64 := Nat.mod_lt _ (by decide)
  obtain ⟨m, hmm⟩ : ∃ m, m = x1 % 64 := ⟨_, rfl⟩
  rw [← hmm] at hm
  have hs : m + 1 + (63 - m) = 64 := by omega
  have hX : x0 % 2 ^ (m + 1) < 2 ^ (m + 1) := Nat.mod_lt _ (Nat.two_pow_pos _)
  have h64 : 2 ^ (m + 1) ≤ 2 ^ 64 := two_pow_le _ _ (by omega)
  have lX : x0 % 2 ^ (m + 1) < 18446744073709551616 := Nat.lt_of_lt_of_le hX h64
  have lY : rev (m + 1) (x0 % 2 ^ (m + 1)) < 18446744073709551616 := Nat.lt_of_lt_of_le (rev_lt _ _) h64
  have e1 : IntKind.u64.wrap ((x0 : Int) * 2 ^ (63 - m)) / 2 ^ (63 - m) = ((x0 % 2 ^ (m + 1) : Nat) : Int) := by
    rw [wrapw_u64]
    have a : ((x0 * 2 ^ (63 - m) % 18446744073709551616 / 2 ^ (63 - m) : Nat) : Int) = (x0 : Int) * 2 ^ (63 - m) % 18446744073709551616 / 2 ^ (63 - m) := by simp
    rw [← a]
    congr 1
    have b : 18446744073709551616 = 2 ^ (m + 1) * 2 ^ (63 - m) := by rw [← Nat.pow_add, hs]
    rw [b, Nat.mul_mod_mul_right, Nat.mul_div_cancel _ (Nat.two_pow_pos _)]
  have n1 := rev_narrow (m + 1) (63 - m) (x0 % 2 ^ (m + 1))
  rw [hs] at n1
  have n2 := rev_narrow (m + 1) (63 - m) (rev (m + 1) (x0 % 2 ^ (m + 1)))
  rw [hs, rev_rev (m + 1) _ hX] at n2
  have e2 : ((rev 64 (x0 % 2 ^ (m + 1)) : Nat) : Int) / 2 ^ (63 - m) = ((rev (m + 1) (x0 % 2 ^ (m + 1)) : Nat) : Int) := by
    rw [← n1]; simp
  have e3 : ((rev 64 (rev (m + 1) (x0 % 2 ^ (m + 1))) : Nat) : Int) / 2 ^ (63 - m) = ((x0 % 2 ^ (m + 1) : Nat) : Int) := by
    have a : ((rev 64 (rev (m + 1) (x0 % 2 ^ (m + 1))) / 2 ^ (63 - m) : Nat) : Int) = ((rev 64 (rev (m + 1) (x0 % 2 ^ (m + 1))) : Nat) : Int) / 2 ^ (63 - m) := by simp
    rw [← a, n2]
  have c3 := i_Reverse64 1 (by decide)
  rw [rev_one] at c3
  have c5 := i_OnesCount64 _ lY
  have w1 := pc_wider (m + 1) (63 - m) (rev (m + 1) (x0 % 2 ^ (m + 1))) (rev_lt _ _)
  have w2 := pc_wider (m + 1) (63 - m) (x0 % 2 ^ (m + 1)) hX
  rw [hs] at w1 w2
  rw [w1, pc_rev, ← w2] at c5
  exact core x0 x1 m _ _ _ _ _ _ w h1 (by omega) hm (len_le (m + 1) _ (rev_lt _ _)) (i_Reverse64 _ lX) (i_Reverse64 _ lY) c3 (i_Len64 _ lY) c5 (i_OnesCount64 _ lX) e1 e2 e3

set_option maxRecDepth 100000 in
theorem lifted (os : Os) (started : os.Started) (H : Type) (enc : TypeId × Value → H) :
    ReturnsInHanded {} Try.checked os 7 .any (Rows.fnTurnedIndexSpec.pre6 enc Try.prog Try.f7 Rows.fnTurnedIndexRow.domain false) (Rows.fnTurnedIndexSpec.post enc Try.prog Try.f7 false true false false) := by
  refine returnsInHanded_of_change (C := Try.checked) own started (by kernel_rfl) Try.func7
    (ChangeSpec.witness6 (enc := enc) (C := Try.checked) false ⟨#[], #[.int .u64 0, .int .u64 0], []⟩ 8 (by kernel_rfl) (by kernel_rfl) (by kernel_rfl) (by kernel_rfl)) ?_
  intro W base args ds gs before hval0 hW hcnd _
  have hval : ∀ (j : Nat) t v, Try.f7.params[j]? = some t → args[j]? = some v → Value.okWide Try.prog W .any base t v := hval0
  have hW' := hW
  obtain ⟨p, q, hA0, hV, rfl, hfz, hnd⟩ := hW
  have hA : DataW.TrodAll enc Try.prog W 0 (fun _ => true) true Try.f7.params.toList args.toList ds p := hA0
  rw [Try.params7] at hA hval
  obtain ⟨v0, vs0, d0, ds0, p0, q0, hargs, rfl, rfl, h0, r0⟩ := trodAll_cons hA
  obtain ⟨v1, vs1, d1, ds1, p1, q1, rfl, rfl, rfl, h1, r1⟩ := trodAll_cons r0
  obtain ⟨rfl, rfl, rfl⟩ := trodAll_nil r1
  obtain rfl : args = #[v0, v1] := by cases args; simp_all
  obtain ⟨rfl, rfl⟩ := trodVars_none hV
  obtain ⟨a0, rfl, rfl, rfl, w0⟩ := open_int Try.underlying22 (hval 0 22 v0 rfl rfl) h0
  obtain ⟨a1, rfl, rfl, rfl, w1⟩ := open_int Try.underlying23 (hval 1 23 v1 rfl rfl) h1
  have b0 := bounds_u64 w0
  obtain ⟨x0, rfl⟩ := Int.eq_ofNat_of_zero_le b0.1
  have b1 := bounds_u64 w1
  obtain ⟨x1, rfl⟩ := Int.eq_ofNat_of_zero_le b1.1
  clear hA0 hval0
  refine (walk x0 (by omega) x1 (by omega) W).mono fun e W' ⟨he, bel⟩ => ?_
  subst he
  exact ⟨_, rfl, _, _, _, [], _, [], hW', trodAll_mk1 (shut_bool Try.underlying4 _), (trodAll_cons_mk (shut_int Try.underlying22 w0) (trodAll_cons_mk (shut_int Try.underlying23 w1) trodAll_mk0)), rfl, bel.frame _, fun h => by cases h⟩

theorem over : Rows.fnTurnedIndexRow.holds Try.pinned (OpenSpec.ofChange Rows.fnTurnedIndexSpec) :=
  OpenClaim.holds_of_wide 7 Try.f7 rfl rfl rfl rfl rfl rfl rfl ⟨rfl, rfl, rfl, rfl, rfl⟩ rfl rfl rfl rfl rfl (by kernel_rfl) Try.func7 (by kernel_rfl)
    (of_decide_eq_true (by kernel_rfl)) (by unfold Func.isWrapper; first | (rw [if_pos (by decide +kernel)]; kernel_rfl) | (rw [if_neg (by decide +kernel)]; exact ⟨rfl, rfl⟩))
    (fun os started H enc _ => lifted os started H enc)

/-- THE STATEMENT -/
theorem proved : Rows.FnTurnedIndexSaid := over
#print axioms proved
end Go.Proofs.Ythknhfekfieedaa.fnTurnedIndex
