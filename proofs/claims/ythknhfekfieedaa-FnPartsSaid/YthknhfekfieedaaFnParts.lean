/-
  PROVED: FnParts: a set of bits has 2 to the power of its size parts, counted one by one from the set down to none (of more than 12 bits the lowest 12 count). Its conditions: the given row's own, and no others.
-/
import Derived.Test.YthknhfekfieedaaRows
import Derived.WalkKit
import Derived.ProofKit
import Derived.OpenShut
import Derived.Test.YthknhfekfieedaaLib
import Derived.Test.YthknhfekfieedaaMore
namespace Go.Proofs.Ythknhfekfieedaa.fnParts
open Go.ChangeShapes Go.WideShapes Go.ChangeAt Go.RowKit Go.Lathe

theorem own : ownKnob Try.prog.godebug = none := by kernel_rfl
theorem pc_or_low (S l : Nat) (hl : pc 64 l ≤ 1) : pc 64 (S ||| l) ≤ pc 64 S + 1 := by
  have := pc_and_or 64 S l; omega
theorem pc_low_le (L : Nat) (hL : L < 18446744073709551616) : pc 64 (if L = 0 then 0 else 2 ^ tz 64 L) ≤ 1 := by
  split
  · rw [pc_zero]; omega
  · rename_i h
    rw [pc_two_pow 64 _ (tz_low 64 L h hL).2]; omega
theorem low_lt (L : Nat) (hL : L < 18446744073709551616) : (if L = 0 then 0 else 2 ^ tz 64 L) < 18446744073709551616 := by
  split
  · decide
  · rename_i h
    exact two_pow_lt _ 64 (tz_low 64 L h hL).2
theorem dep_le (n m k : Nat) : dep n m k ≤ m := by
  have := dep_sub n m k
  rw [← this]; exact Nat.and_le_right
set_option maxHeartbeats 2000000 in
theorem walk (x0 : Nat) (h0 : x0 < 18446744073709551616) (w : World) :
    Calls Try.prog 6 #[.int .u64 x0] w fun e w' => e = .returned (.bool true) ∧ Below w.heap.size w w' := by
  have H0 := Lib.hid h0
  clear h0
  go_enter Try.func6, Try.ntmps6
  go_wp2
  go_loop [3, 4, 8] (fun s l i => ∃ j S Lf : Nat, j ≤ 12 ∧ i = .int .i64 j ∧ s = .int .u64 S ∧ l = .int .u64 Lf ∧ S < 18446744073709551616 ∧ Lf < 18446744073709551616 ∧ pc 64 S ≤ j) (fun _ _ i => 12 - (intOf i).toNat)
  case atStart => exact ⟨0, 0, x0, by decide, rfl, rfl, rfl, by decide, H0.out, by rw [pc_zero]; exact Nat.le_refl _⟩
  case round =>
    obtain ⟨j, S, Lf, hj, rfl, rfl, rfl, hS, hL, hpc⟩ := hrel
    by_cases hlt : j < 12
    · have e1 := low_u64 Lf hL
      have e2 := u64_or_nat S _ hS (low_lt Lf hL)
      have e3 := pred_u64 Lf hL
      have lp : (if Lf = 0 then 18446744073709551615 else Lf - 1) < 18446744073709551616 := by split <;> omega
      have e4 := u64_and_nat Lf _ hL lp
      have n1 : S ||| (if Lf = 0 then 0 else 2 ^ tz 64 Lf) < 18446744073709551616 := Nat.or_lt_two_pow (n := 64) hS (low_lt Lf hL)
      have n2 : Lf &&& (if Lf = 0 then 18446744073709551615 else Lf - 1) < 18446744073709551616 := Nat.lt_of_le_of_lt Nat.and_le_left hL
      have n3 := pc_or_low S _ (pc_low_le Lf hL)
      generalize (if Lf = 0 then 0 else 2 ^ tz 64 Lf) = l at e1 e2 n1 n3
      generalize (if Lf = 0 then 18446744073709551615 else Lf - 1) = p at e3 e4 n2
      generalize S ||| l = S2 at e2 n1 n3
      generalize Lf &&& p = L2 at e4 n2
      have N : Hid (S2 < 18446744073709551616 ∧ L2 < 18446744073709551616 ∧ pc 64 S2 ≤ j + 1) := ⟨n1, n2, by omega⟩
      clear n1 n2 n3 hS hL lp hpc
      go_wp2
      go_round
      case rel => exact ⟨j + 1, S2, L2, by omega, by go_num, rfl, rfl, N.out.1, N.out.2.1, N.out.2.2⟩
      case measure => simp [intOf]; omega
    · have hp12 : pc 64 S ≤ 12 := by omega
      have hq : 2 ^ pc 64 S ≤ 4096 := two_pow_le _ 12 hp12
      have hq0 := Nat.two_pow_pos (pc 64 S)
      have c1 := i_OnesCount64 S hS
      have c2 := i_Len64 (2 ^ pc 64 S) (by omega)
      have hlen : len (2 ^ pc 64 S) = pc 64 S + 1 := len_eq _ _ (lenIs_of_ge _ _ (two_pow_lt _ _ (by omega)) (Or.inr (Nat.le_refl _)))
      rw [hlen] at c2
      have hsh : wrap64 (2 ^ pc 64 S) = ((2 ^ pc 64 S : Nat) : Int) := by
        have e : ((2 ^ pc 64 S : Nat) : Int) = 2 ^ pc 64 S := by simp
        rw [← e]
        exact IntWalk.wrap64_in _ (by omega)
      have st : ∀ k, k < 2 ^ pc 64 S → k ≠ 0 → dep 64 S k ≠ 0 ∧ (dep 64 S k - 1) &&& S = dep 64 S (k - 1) := fun k h1 h2 => ⟨dep_pos 64 S k h1 h2, dep_pred 64 S k h1 h2⟩
      have full := dep_full 64 S hS
      have zero := dep_zero 64 S
      have hdl := dep_le 64 S
      have ST := Lib.hid st
      have FULL := Lib.hid full
      have ZERO := Lib.hid zero
      have HDL := Lib.hid hdl
      have HS := Lib.hid hS
      have CO := Lib.hid c1
      have CL := Lib.hid c2
      clear c1 c2 hlen st full zero hdl hpc hL hS
      generalize hQ : 2 ^ pc 64 S = Q at hq hq0 hsh ST FULL CL
      have HQ := Lib.hid hQ
      clear hQ
      go_wp2
      go_loop [5, 6] (fun n p => ∃ k : Nat, k < Q ∧ n = .int .i64 ((Q - k : Nat) : Int) ∧ p = .int .u64 ((dep 64 S k : Nat) : Int)) (fun n _ => Q - (intOf n).toNat)
      case atStart => exact ⟨Q - 1, by omega, by rw [show Q - (Q - 1) = 1 by omega]; rfl, by rw [FULL.out]⟩
      case round =>
        obtain ⟨k, hk, rfl, rfl⟩ := hrel
        by_cases hk0 : k = 0
        · subst hk0
          rw [ZERO.out, Nat.sub_zero]
          go_wp2_with (first
            | (go_at_call 12; (with_reducible refine (CO.out _).mono ?_); rintro e w' ⟨rfl, rfl⟩)
            | (go_at_call 13; (with_reducible refine (CL.out _).mono ?_); rintro e w' ⟨rfl, rfl⟩))
          go_ret
          exact ⟨rfl, Below.refl _ _⟩
        · obtain ⟨s1, s2⟩ := ST.out k hk hk0
          have hd := HDL.out k
          have hSS := HS.out
          have e1 := u64_and_nat (dep 64 S k - 1) S (by omega) hSS
          rw [s2, show ((dep 64 S k - 1 : Nat) : Int) = ((dep 64 S k : Nat) : Int) - 1 by omega] at e1
          obtain ⟨c, hc, hc2⟩ : ∃ c, c = Q - k ∧ c ≤ 4096 := ⟨_, rfl, by omega⟩
          rw [← hc]
          have HC := Lib.hid hc
          have hd1 : 1 ≤ dep 64 S k := by omega
          have hd2 : dep 64 S k < 18446744073709551616 := by omega
          clear hc s2 hd hSS s1
          generalize dep 64 S k = D at e1 hd1 hd2
          generalize hD2 : dep 64 S (k - 1) = D2 at e1
          have HD2 := Lib.hid hD2
          have hne : ((D : Int) != 0) = true := by simp; omega
          clear hD2
          go_wp2
          go_round
          case rel => exact ⟨k - 1, by omega, by have := HC.out; go_num, by rw [HD2.out]⟩
          case measure => have := HC.out; simp [intOf]; omega

set_option maxRecDepth 100000 in
theorem lifted (os : Os) (started : os.Started) (H : Type) (enc : TypeId × Value → H) :
    ReturnsInHanded {} Try.checked os 6 .any (Rows.fnPartsSpec.pre6 enc Try.prog Try.f6 Rows.fnPartsRow.domain false) (Rows.fnPartsSpec.post enc Try.prog Try.f6 false true false false) := by
  refine returnsInHanded_of_change (C := Try.checked) own started (by kernel_rfl) Try.func6
    (ChangeSpec.witness6 (enc := enc) (C := Try.checked) false ⟨#[], #[.int .u64 0], []⟩ 8 (by kernel_rfl) (by kernel_rfl) (by kernel_rfl) (by kernel_rfl)) ?_
  intro W base args ds gs before hval0 hW hcnd _
  have hval : ∀ (j : Nat) t v, Try.f6.params[j]? = some t → args[j]? = some v → Value.okWide Try.prog W .any base t v := hval0
  have hW' := hW
  obtain ⟨p, q, hA0, hV, rfl, hfz, hnd⟩ := hW
  have hA : DataW.TrodAll enc Try.prog W 0 (fun _ => true) true Try.f6.params.toList args.toList ds p := hA0
  rw [Try.params6] at hA hval
  obtain ⟨v0, vs0, d0, ds0, p0, q0, hargs, rfl, rfl, h0, r0⟩ := trodAll_cons hA
  obtain ⟨rfl, rfl, rfl⟩ := trodAll_nil r0
  obtain rfl : args = #[v0] := by cases args; simp_all
  obtain ⟨rfl, rfl⟩ := trodVars_none hV
  obtain ⟨a0, rfl, rfl, rfl, w0⟩ := open_int Try.underlying22 (hval 0 22 v0 rfl rfl) h0
  have b0 := bounds_u64 w0
  obtain ⟨x0, rfl⟩ := Int.eq_ofNat_of_zero_le b0.1
  clear hA0 hval0
  refine (walk x0 (by omega) W).mono fun e W' ⟨he, bel⟩ => ?_
  subst he
  exact ⟨_, rfl, _, _, _, [], _, [], hW', trodAll_mk1 (shut_bool Try.underlying4 _), (trodAll_cons_mk (shut_int Try.underlying22 w0) trodAll_mk0), rfl, bel.frame _, fun h => by cases h⟩

theorem over : Rows.fnPartsRow.holds Try.pinned (OpenSpec.ofChange Rows.fnPartsSpec) :=
  OpenClaim.holds_of_wide 6 Try.f6 rfl rfl rfl rfl rfl rfl rfl ⟨rfl, rfl, rfl, rfl, rfl⟩ rfl rfl rfl rfl rfl (by kernel_rfl) Try.func6 (by kernel_rfl)
    (of_decide_eq_true (by kernel_rfl)) (by unfold Func.isWrapper; first | (rw [if_pos (by decide +kernel)]; kernel_rfl) | (rw [if_neg (by decide +kernel)]; exact ⟨rfl, rfl⟩))
    (fun os started H enc _ => lifted os started H enc)

/-- THE STATEMENT -/
theorem proved : Rows.FnPartsSaid := over
#print axioms proved
end Go.Proofs.Ythknhfekfieedaa.fnParts
