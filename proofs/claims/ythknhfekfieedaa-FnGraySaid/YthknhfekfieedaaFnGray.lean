/-
  PROVED: FnGray: neighbours of the Gray code differ in one bit, also the last and the first one; and each number is had again of its code by adding up bits from the highest one down. Its conditions: the given row's own, and no others.
-/
import Derived.Test.YthknhfekfieedaaRows
import Derived.WalkKit
import Derived.ProofKit
import Derived.OpenShut
import Derived.Test.YthknhfekfieedaaLib
import Derived.Test.YthknhfekfieedaaMore
namespace Go.Proofs.Ythknhfekfieedaa.fnGray
open Go.ChangeShapes Go.WideShapes Go.ChangeAt Go.RowKit Go.Lathe

theorem own : ownKnob Try.prog.godebug = none := by kernel_rfl
def bk (x k : Nat) : Nat := x / 2 ^ k * 2 ^ k
theorem bk_bit (x k i : Nat) : (bk x k).testBit i = (decide (k ≤ i) && x.testBit i) := by
  unfold bk
  rw [Nat.testBit_mul_two_pow, Nat.testBit_div_two_pow]
  by_cases h : k ≤ i
  · simp [h]
  · simp [h]
theorem bk_step (x m : Nat) : bk x (m + 1) ||| ((x.testBit m).toNat * 2 ^ m) = bk x m := by
  apply Nat.eq_of_testBit_eq
  intro i
  rw [Nat.testBit_or, bk_bit, bk_bit, Nat.testBit_mul_two_pow]
  by_cases h : i = m
  · subst h
    have : ¬ i + 1 ≤ i := by omega
    cases x.testBit i <;> simp [this]
  · by_cases h2 : m ≤ i
    · have h3 : m + 1 ≤ i := by omega
      obtain ⟨j, hj⟩ : ∃ j, i - m = j + 1 := ⟨i - m - 1, by omega⟩
      have : ((x.testBit m).toNat).testBit (j + 1) = false := by
        cases x.testBit m
        · simp
        · rw [Nat.testBit_succ, show (true.toNat) / 2 = 0 from rfl]; simp
      rw [hj, this]
      simp [h2, h3]
    · have h3 : ¬ m + 1 ≤ i := by omega
      simp [h2, h3]
theorem bk_le (x k : Nat) : bk x k ≤ x := Nat.div_mul_le_self _ _
theorem and1_i64 (c : Nat) (h : c ≤ 64) : bits .and .i64 (c : Int) 1 = ((c % 2 : Nat) : Int) := by
  have h1 : (BitVec.ofInt 64 (c : Int)).toNat = c := by
    rw [BitVec.ofInt_natCast, BitVec.toNat_ofNat]; exact Nat.mod_eq_of_lt (by omega)
  have e : bits .and .i64 (c : Int) 1 = IntKind.i64.wrap (((BitVec.ofInt 64 (c : Int) &&& BitVec.ofInt 64 1).toNat : Nat) : Int) := rfl
  rw [e, BitVec.toNat_and, h1, show (BitVec.ofInt 64 1).toNat = 1 from rfl, show c &&& 1 = c % 2 from Nat.and_two_pow_sub_one_eq_mod c 1]
  exact IntWalk.i64_in _ (by omega)
set_option maxHeartbeats 1000000 in
theorem walk (x0 : Nat) (h0 : x0 < 18446744073709551616) (w : World) :
    Calls Try.prog 4 #[.int .u64 x0] w fun e w' => e = .returned (.bool true) ∧ Below w.heap.size w w' := by
  have e1 : bits .xor .u64 (x0 : Int) ((x0 : Int) / 2) = ((x0 ^^^ x0 / 2 : Nat) : Int) := u64_xor_nat x0 (x0 / 2) h0 (by omega)
  have hx1 : (x0 + 1) % 18446744073709551616 < 18446744073709551616 := Nat.mod_lt _ (by decide)
  have e2 : IntKind.u64.wrap ((x0 : Int) + 1) = (((x0 + 1) % 18446744073709551616 : Nat) : Int) := by rw [wrapw_u64]; omega
  have e3 : bits .xor .u64 (((x0 + 1) % 18446744073709551616 : Nat) : Int) ((((x0 + 1) % 18446744073709551616 : Nat) : Int) / 2) = (((x0 + 1) % 18446744073709551616 ^^^ (x0 + 1) % 18446744073709551616 / 2 : Nat) : Int) :=
    u64_xor_nat ((x0 + 1) % 18446744073709551616) ((x0 + 1) % 18446744073709551616 / 2) hx1 (Nat.lt_of_le_of_lt (Nat.div_le_self _ _) hx1)
  have hg : x0 ^^^ x0 / 2 < 18446744073709551616 := Nat.xor_lt_two_pow (n := 64) h0 (by omega)
  have hh : (x0 + 1) % 18446744073709551616 ^^^ (x0 + 1) % 18446744073709551616 / 2 < 18446744073709551616 := Nat.xor_lt_two_pow (n := 64) hx1 (by omega)
  have e4 := u64_xor_nat _ _ hg hh
  have cf := i_OnesCount64 _ (Nat.xor_lt_two_pow (n := 64) hg hh)
  have gn := gray_next 64 x0 (by decide) h0
  rw [show (2 : Nat) ^ 64 = 18446744073709551616 from rfl] at gn
  rw [gn] at cf
  have gb := gray_bit 64 x0
  have CG : Hid (∀ m : Nat, ∀ w, Calls Try.prog 12 #[.int .u64 (((x0 ^^^ x0 / 2) / 2 ^ m : Nat) : Int)] w fun e w' => e = .returned (.int .i64 (pc 64 ((x0 ^^^ x0 / 2) / 2 ^ m))) ∧ w = w') :=
    fun m w => i_OnesCount64 _ (Nat.lt_of_le_of_lt (Nat.div_le_self _ _) hg) w
  have GB : Hid (∀ i, pc 64 ((x0 ^^^ x0 / 2) / 2 ^ i) % 2 = (x0.testBit i).toNat) := fun i => gb i h0
  have H0 := Lib.hid h0
  clear gn gb hh h0
  generalize (x0 + 1) % 18446744073709551616 ^^^ (x0 + 1) % 18446744073709551616 / 2 = h at e3 e4 cf
  generalize (x0 + 1) % 18446744073709551616 = x1 at e2 e3 hx1
  generalize x0 ^^^ x0 / 2 = g at e1 e4 cf CG GB hg
  generalize g ^^^ h = d at e4 cf
  have CF := Lib.hid cf
  have HG := Lib.hid hg
  clear cf hg hx1
  go_enter Try.func4, Try.ntmps4
  go_wp2
  go_loop [5, 6] (fun b i => ∃ k : Nat, k ≤ 64 ∧ i = .int .i64 ((k : Int) - 1) ∧ b = .int .u64 ((bk x0 k : Nat) : Int)) (fun _ i => (intOf i + 1).toNat)
  case atStart => exact ⟨64, Nat.le_refl _, rfl, by unfold bk; rw [Nat.div_eq_of_lt H0.out, Nat.zero_mul]; rfl⟩
  case round =>
    obtain ⟨k, hk, rfl, rfl⟩ := hrel
    by_cases hk0 : k = 0
    · subst hk0
      rw [show bk x0 0 = x0 by unfold bk; simp]
      go_wp2_with (go_at_call 12; (with_reducible refine (CF.out _).mono ?_); rintro e w' ⟨rfl, rfl⟩)
      go_ret
      exact ⟨rfl, Below.refl _ _⟩
    · obtain ⟨m, rfl⟩ : ∃ m, k = m + 1 := ⟨k - 1, by omega⟩
      rw [show (((m + 1 : Nat) : Int) - 1) = (m : Int) by omega]
      have q1 : (g : Int) / 2 ^ m = ((g / 2 ^ m : Nat) : Int) := by simp
      have hc := pc_le 64 (g / 2 ^ m)
      have q2 := and1_i64 _ hc
      have q3 := GB.out m
      rw [q3] at q2
      have cg := CG.out m
      have st := bk_step x0 m
      have lb : (x0.testBit m).toNat * 2 ^ m < 18446744073709551616 := by
        have h1 := Bool.toNat_le (x0.testBit m)
        have h2 := two_pow_le m 63 (by omega)
        have h3 : (x0.testBit m).toNat * 2 ^ m ≤ 1 * 2 ^ m := Nat.mul_le_mul_right _ h1
        rw [show (2 : Nat) ^ 63 = 9223372036854775808 from rfl] at h2
        omega
      have q4 : IntKind.u64.wrap (((x0.testBit m).toNat : Int) * 2 ^ m) = (((x0.testBit m).toNat * 2 ^ m : Nat) : Int) := by
        have e : (((x0.testBit m).toNat * 2 ^ m : Nat) : Int) = ((x0.testBit m).toNat : Int) * 2 ^ m := by simp
        rw [wrapw_u64, ← e]
        generalize (x0.testBit m).toNat * 2 ^ m = z at lb ⊢
        omega
      have q5 := u64_or_nat (bk x0 (m + 1)) _ (Nat.lt_of_le_of_lt (bk_le _ _) H0.out) lb
      rw [st] at q5
      have hb1 := Bool.toNat_le (x0.testBit m)
      clear q3 st lb
      generalize (x0.testBit m).toNat * 2 ^ m = z at q4 q5
      generalize (x0.testBit m).toNat = b at q2 q4 hb1
      generalize pc 64 (g / 2 ^ m) = c at cg q2 hc
      generalize g / 2 ^ m = gm at q1 cg
      generalize bk x0 (m + 1) = B at q5
      generalize hB : bk x0 m = B2 at q5
      have HB := Lib.hid hB
      have CGm := Lib.hid cg
      clear hB cg
      go_wp2_with (go_at_call 12; (with_reducible refine (CGm.out _).mono ?_); rintro e w' ⟨rfl, rfl⟩)
      go_round
      case rel => exact ⟨m, by omega, by go_num, by rw [HB.out]⟩
      case measure => simp [intOf]

set_option maxRecDepth 100000 in
theorem lifted (os : Os) (started : os.Started) (H : Type) (enc : TypeId × Value → H) :
    ReturnsInHanded {} Try.checked os 4 .any (Rows.fnGraySpec.pre6 enc Try.prog Try.f4 Rows.fnGrayRow.domain false) (Rows.fnGraySpec.post enc Try.prog Try.f4 false true false false) := by
  refine returnsInHanded_of_change (C := Try.checked) own started (by kernel_rfl) Try.func4
    (ChangeSpec.witness6 (enc := enc) (C := Try.checked) false ⟨#[], #[.int .u64 0], []⟩ 8 (by kernel_rfl) (by kernel_rfl) (by kernel_rfl) (by kernel_rfl)) ?_
  intro W base args ds gs before hval0 hW hcnd _
  have hval : ∀ (j : Nat) t v, Try.f4.params[j]? = some t → args[j]? = some v → Value.okWide Try.prog W .any base t v := hval0
  have hW' := hW
  obtain ⟨p, q, hA0, hV, rfl, hfz, hnd⟩ := hW
  have hA : DataW.TrodAll enc Try.prog W 0 (fun _ => true) true Try.f4.params.toList args.toList ds p := hA0
  rw [Try.params4] at hA hval
  obtain ⟨v0, vs0, d0, ds0, p0, q0, hargs, rfl, rfl, h0, r0⟩ := trodAll_cons hA
  obtain ⟨rfl, rfl, rfl⟩ := trodAll_nil r0
  obtain rfl : args = #[v0] := by cases args; simp_all
  obtain ⟨rfl, rfl⟩ := trodVars_none hV
  obtain ⟨a0, rfl, rfl, rfl, w0⟩ := open_int Try.underlying22 (hval 0 22 v0 rfl rfl) h0
  have b0 := bounds_u64 w0
  obtain ⟨x0, rfl⟩ := Int.eq_ofNat_of_zero_le b0.1
  clear hA0 hval0
  refine (walk x0 (by omega) W).mono fun e W' ⟨he, bel⟩ => ?_
  subst he
  exact ⟨_, rfl, _, _, _, [], _, [], hW', trodAll_mk1 (shut_bool Try.underlying4 _), (trodAll_cons_mk (shut_int Try.underlying22 w0) trodAll_mk0), rfl, bel.frame _, fun h => by cases h⟩

theorem over : Rows.fnGrayRow.holds Try.pinned (OpenSpec.ofChange Rows.fnGraySpec) :=
  OpenClaim.holds_of_wide 4 Try.f4 rfl rfl rfl rfl rfl rfl rfl ⟨rfl, rfl, rfl, rfl, rfl⟩ rfl rfl rfl rfl rfl (by kernel_rfl) Try.func4 (by kernel_rfl)
    (of_decide_eq_true (by kernel_rfl)) (by unfold Func.isWrapper; first | (rw [if_pos (by decide +kernel)]; kernel_rfl) | (rw [if_neg (by decide +kernel)]; exact ⟨rfl, rfl⟩))
    (fun os started H enc _ => lifted os started H enc)

/-- THE STATEMENT -/
theorem proved : Rows.FnGraySaid := over
#print axioms proved
end Go.Proofs.Ythknhfekfieedaa.fnGray
