/-
  PROVED: FnEndings: the eight bytes of a number, from the lowest one up, read from the highest one down, are the number with its bytes reversed; likewise of four and of two. Its conditions: the given row's own, and no others.
-/
import Derived.Test.YthknhfekfieedaaRows
import Derived.WalkKit
import Derived.ProofKit
import Derived.OpenShut
import Derived.Test.YthknhfekfieedaaLib
import Derived.Test.YthknhfekfieedaaMore
namespace Go.Proofs.Ythknhfekfieedaa.fnEndings
open Go.ChangeShapes Go.WideShapes Go.ChangeAt Go.RowKit Go.Lathe

theorem own : ownKnob Try.prog.godebug = none := by kernel_rfl
set_option maxHeartbeats 1000000 in
theorem read (x n : Nat) (a : Addr) (w : World) (hn : n ≤ 8) (hx : x < 18446744073709551616) (hc : w.cell? a = some (.int .u64 x)) :
    Calls Try.prog 8 #[.int .i64 n, .pointer (some a)] w fun e w' => e = .returned (.int .u64 ((readB x n : Nat) : Int)) ∧ w = w' := by
  go_enter Try.func8, Try.ntmps8
  go_wp2
  go_loop [4, 7] (fun y i => ∃ k : Nat, k ≤ n ∧ i = .int .i64 k ∧ y = .int .u64 ((readB x k : Nat) : Int)) (fun _ i => n - (intOf i).toNat)
  case atStart => exact ⟨0, Nat.zero_le _, rfl, rfl⟩
  case round =>
    obtain ⟨k, hk, rfl, rfl⟩ := hrel
    by_cases hlt : k < n
    · have l1 := readB_lt x k
      have l2 := two_pow_le (8 * k) 56 (by omega)
      rw [show (2 : Nat) ^ 56 = 72057594037927936 from rfl] at l2
      have q1 : IntKind.u64.wrap ((readB x k : Int) * 256) = ((readB x k * 256 : Nat) : Int) := by rw [wrapw_u64]; omega
      have q2 : (x : Int) / 2 ^ (8 * k) = ((x / 2 ^ (8 * k) : Nat) : Int) := by simp
      have q3 := and255_u64 (x / 2 ^ (8 * k)) (Nat.lt_of_le_of_lt (Nat.div_le_self _ _) hx)
      have q4 := u64_or_nat (readB x k * 256) (x / 2 ^ (8 * k) % 256) (by omega) (by omega)
      have q5 : readB x (k + 1) = (readB x k * 256) ||| (x / 2 ^ (8 * k) % 256) := rfl
      rw [← q5] at q4
      clear q5 l1 l2
      have HX := Lib.hid hx
      clear hx
      generalize x / 2 ^ (8 * k) % 256 = b at q3 q4
      generalize x / 2 ^ (8 * k) = xs at q2 q3
      generalize readB x k * 256 = y2 at q1 q4
      generalize readB x k = y at q1
      generalize hz : readB x (k + 1) = z at q4
      have HZ := Lib.hid hz
      clear hz
      go_wp2
      go_round
      case rel => exact ⟨k + 1, by omega, by go_num, by rw [HZ.out]⟩
      case measure => simp [intOf]; omega
    · have hkn : k = n := by omega
      subst hkn
      go_wp2
      go_ret
      exact ⟨rfl, rfl⟩
theorem revB_one : revB 64 1 = 72057594037927936 := by decide +kernel
set_option maxHeartbeats 4000000 in
theorem core (x b8 b4 b2 x4 x2 : Nat) (w : World)
   (c1 : ∀ w, Calls Try.prog 9 #[.int .u64 x] w fun e w' => e = .returned (.int .u64 b8) ∧ w = w')
   (c2 : ∀ w, Calls Try.prog 10 #[.int .u32 x4] w fun e w' => e = .returned (.int .u32 b4) ∧ w = w')
   (c3 : ∀ w, Calls Try.prog 11 #[.int .u16 x2] w fun e w' => e = .returned (.int .u16 b2) ∧ w = w')
   (c4 : ∀ w, Calls Try.prog 9 #[.int .u64 1] w fun e w' => e = .returned (.int .u64 72057594037927936) ∧ w = w')
   (r8 : ∀ w a, w.cell? a = some (.int .u64 x) → Calls Try.prog 8 #[.int .i64 8, .pointer (some a)] w fun e w' => e = .returned (.int .u64 b8) ∧ w = w')
   (r4 : ∀ w a, w.cell? a = some (.int .u64 x) → Calls Try.prog 8 #[.int .i64 4, .pointer (some a)] w fun e w' => e = .returned (.int .u64 b4) ∧ w = w')
   (r2 : ∀ w a, w.cell? a = some (.int .u64 x) → Calls Try.prog 8 #[.int .i64 2, .pointer (some a)] w fun e w' => e = .returned (.int .u64 b2) ∧ w = w')
   (_e1 : (x : Int) % 4294967296 = (x4 : Int)) (_e2 : IntKind.u16.wrap (x : Int) = (x2 : Int)) (_h4 : b4 < 4294967296) (_h2 : b2 < 65536) :
    Calls Try.prog 3 #[.int .u64 x] w fun e w' => e = .returned (.bool true) ∧ Below w.heap.size w w' := by
  have C1 := Lib.hid c1; have C2 := Lib.hid c2; have C3 := Lib.hid c3; have C4 := Lib.hid c4; have R8 := Lib.hid r8; have R4 := Lib.hid r4; have R2 := Lib.hid r2
  clear c1 c2 c3 c4 r8 r4 r2
  go_enter Try.func3, Try.ntmps3
  go_wp2_with (first
    | (go_at_call 9; (first | (with_reducible refine (C1.out _).mono ?_) | (with_reducible refine (C4.out _).mono ?_)); rintro e w' ⟨rfl, rfl⟩)
    | (go_at_call 10; (with_reducible refine (C2.out _).mono ?_); rintro e w' ⟨rfl, rfl⟩)
    | (go_at_call 11; (with_reducible refine (C3.out _).mono ?_); rintro e w' ⟨rfl, rfl⟩)
    | (go_at_call 8; (first | (with_reducible refine (R8.out _ _ ?_).mono ?_) | (with_reducible refine (R4.out _ _ ?_).mono ?_) | (with_reducible refine (R2.out _ _ ?_).mono ?_)); rotate_left; rintro e w' ⟨rfl, rfl⟩; rotate_left; (focus simp)))
  go_ret
  exact ⟨rfl, (Below.refl _ _).alloc (Nat.le_refl _) _⟩
theorem walk (x0 : Nat) (h0 : x0 < 18446744073709551616) (w : World) :
    Calls Try.prog 3 #[.int .u64 x0] w fun e w' => e = .returned (.bool true) ∧ Below w.heap.size w w' := by
  have e8 : readB x0 8 = revB 64 x0 := by
    have := readB_eq x0 8
    rw [show 8 * 8 = 64 from rfl, Nat.mod_eq_of_lt h0] at this
    exact this
  have e4 : readB x0 4 = revB 32 (x0 % 4294967296) := readB_eq x0 4
  have e2 : readB x0 2 = revB 16 (x0 % 65536) := readB_eq x0 2
  have c4 := i_ReverseBytes64 1 (by decide)
  rw [revB_one] at c4
  have r8 := fun (w : World) (a : Addr) (hc : w.cell? a = some (.int .u64 (x0 : Int))) => read x0 8 a w (by decide) h0 hc
  rw [e8] at r8
  have r4 := fun (w : World) (a : Addr) (hc : w.cell? a = some (.int .u64 (x0 : Int))) => read x0 4 a w (by decide) h0 hc
  rw [e4] at r4
  have r2 := fun (w : World) (a : Addr) (hc : w.cell? a = some (.int .u64 (x0 : Int))) => read x0 2 a w (by decide) h0 hc
  rw [e2] at r2
  exact core x0 _ _ _ (x0 % 4294967296) (x0 % 65536) w (i_ReverseBytes64 x0 h0) (i_ReverseBytes32 _ (Nat.mod_lt _ (by decide))) (i_ReverseBytes16 _ (Nat.mod_lt _ (by decide))) c4 r8 r4 r2
    (by simp) (by rw [wrapw_u16]; simp) (revB_lt 32 _) (revB_lt 16 _)

set_option maxRecDepth 100000 in
theorem lifted (os : Os) (started : os.Started) (H : Type) (enc : TypeId × Value → H) :
    ReturnsInHanded {} Try.checked os 3 .any (Rows.fnEndingsSpec.pre6 enc Try.prog Try.f3 Rows.fnEndingsRow.domain false) (Rows.fnEndingsSpec.post enc Try.prog Try.f3 false true false false) := by
  refine returnsInHanded_of_change (C := Try.checked) own started (by kernel_rfl) Try.func3
    (ChangeSpec.witness6 (enc := enc) (C := Try.checked) false ⟨#[], #[.int .u64 0], []⟩ 8 (by kernel_rfl) (by kernel_rfl) (by kernel_rfl) (by kernel_rfl)) ?_
  intro W base args ds gs before hval0 hW hcnd _
  have hval : ∀ (j : Nat) t v, Try.f3.params[j]? = some t → args[j]? = some v → Value.okWide Try.prog W .any base t v := hval0
  have hW' := hW
  obtain ⟨p, q, hA0, hV, rfl, hfz, hnd⟩ := hW
  have hA : DataW.TrodAll enc Try.prog W 0 (fun _ => true) true Try.f3.params.toList args.toList ds p := hA0
  rw [Try.params3] at hA hval
  obtain ⟨v0, vs0, d0, ds0, p0, q0, hargs, rfl, rfl, h0, r0⟩ := trodAll_cons hA
  obtain ⟨rfl, rfl, rfl⟩ := trodAll_nil r0
  obtain rfl : args = #[v0] := by cases args; simp_all
  obtain ⟨rfl, rfl⟩ := trodVars_none hV
  obtain ⟨a0, rfl, rfl, rfl, w0⟩ := open_int Try.underlying22 (hval 0 22 v0 rfl rfl) h0
  have b0 := bounds_u64 w0
  obtain ⟨x0, rfl⟩ := Int.eq_ofNat_of_zero_le b0.1
  clear hA0 hval0
  refine (walk x0 (by omega) W).mono fun e W' ⟨he, bel⟩ => ?_
  subst he
  exact ⟨_, rfl, _, _, _, [], _, [], hW', trodAll_mk1 (shut_bool Try.underlying4 _), (trodAll_cons_mk (shut_int Try.underlying22 w0) trodAll_mk0), rfl, bel.frame _, fun h => by cases h⟩

theorem over : Rows.fnEndingsRow.holds Try.pinned (OpenSpec.ofChange Rows.fnEndingsSpec) :=
  OpenClaim.holds_of_wide 3 Try.f3 rfl rfl rfl rfl rfl rfl rfl ⟨rfl, rfl, rfl, rfl, rfl⟩ rfl rfl rfl rfl rfl (by kernel_rfl) Try.func3 (by kernel_rfl)
    (of_decide_eq_true (by kernel_rfl)) (by unfold Func.isWrapper; first | (rw [if_pos (by decide +kernel)]; kernel_rfl) | (rw [if_neg (by decide +kernel)]; exact ⟨rfl, rfl⟩))
    (fun os started H enc _ => lifted os started H enc)

/-- THE STATEMENT -/
theorem proved : Rows.FnEndingsSaid := over
#print axioms proved
end Go.Proofs.Ythknhfekfieedaa.fnEndings
