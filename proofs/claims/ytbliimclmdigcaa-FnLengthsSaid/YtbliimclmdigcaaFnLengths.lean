/-
  PROVED: FnLengths: the length and the zeros ahead make up all bits; x is at least 2 to the power of one less than its length, and less than to the power of its length; greater numbers are not shorter. Its conditions: the given row's own, and no others.
-/
import Derived.Test.YtbliimclmdigcaaRows
import Derived.WalkKit
import Derived.ProofKit
import Derived.OpenShut
import Derived.Test.YtbliimclmdigcaaLib
namespace Go.Proofs.Ytbliimclmdigcaa.fnLengths
open Go.ChangeShapes Go.WideShapes Go.ChangeAt Go.RowKit Go.Lathe

theorem own : ownKnob Try.prog.godebug = none := by kernel_rfl
set_option maxHeartbeats 1000000 in
theorem core (x y lo hi a b : Nat) (w : World)
   (c1 : ∀ w, Calls Try.prog 24 #[.int .u64 lo] w fun e w' => e = .returned (.int .i64 a) ∧ w = w')
   (c2 : ∀ w, Calls Try.prog 24 #[.int .u64 hi] w fun e w' => e = .returned (.int .i64 b) ∧ w = w')
   (c3 : ∀ w, Calls Try.prog 26 #[.int .u64 lo] w fun e w' => e = .returned (.int .i64 (64 - (a : Int))) ∧ w = w')
   (c4 : ∀ w, Calls Try.prog 26 #[.int .u64 hi] w fun e w' => e = .returned (.int .i64 (64 - (b : Int))) ∧ w = w')
   (_la : a ≤ 64) (_lb : b ≤ 64) (_lab : a ≤ b) (_h : lo = x ∧ hi = y ∧ x < y ∨ lo = y ∧ hi = x ∧ y < x ∨ lo = x ∧ hi = x ∧ y = x)
   (_r : ((a : Int) == 0) = true ∧ ((lo : Int) == 0) = true ∨ ((a : Int) == 0) = false ∧ 0 < a ∧ (lo : Int) / 2 ^ (a - 1) = 1) :
    Calls Try.prog 9 #[.int .u64 x, .int .u64 y] w fun e w' => e = .returned (.bool true) ∧ Below w.heap.size w w' := by
  have C1 := Lib.hid c1; have C2 := Lib.hid c2; have C3 := Lib.hid c3; have C4 := Lib.hid c4
  clear c1 c2 c3 c4
  rcases _h with ⟨rfl, rfl, hxy⟩ | ⟨rfl, rfl, hxy⟩ | ⟨rfl, rfl, rfl⟩ <;> rcases _r with ⟨hp, hr⟩ | ⟨hp, hq, hr⟩
  all_goals
    go_enter Try.func9, Try.ntmps9
    go_wp2_with (first
      | (go_at_call 24; (first | (with_reducible refine (i_Len_max _).mono ?_) | (with_reducible refine (C1.out _).mono ?_) | (with_reducible refine (C2.out _).mono ?_)); rintro e w' ⟨rfl, rfl⟩)
      | (go_at_call 26; (first | (with_reducible refine (C3.out _).mono ?_) | (with_reducible refine (C4.out _).mono ?_)); rintro e w' ⟨rfl, rfl⟩))
    go_ret
    exact ⟨rfl, Below.refl _ _⟩
theorem walk (x0 : Nat) (h0 : x0 < 18446744073709551616) (x1 : Nat) (h1 : x1 < 18446744073709551616) (w : World) :
    Calls Try.prog 9 #[.int .u64 x0, .int .u64 x1] w fun e w' => e = .returned (.bool true) ∧ Below w.heap.size w w' := by
  have key : ∀ lo hi : Nat, lo < 18446744073709551616 → hi < 18446744073709551616 → lo ≤ hi → (lo = x0 ∧ hi = x1 ∧ x0 < x1 ∨ lo = x1 ∧ hi = x0 ∧ x1 < x0 ∨ lo = x0 ∧ hi = x0 ∧ x1 = x0) →
      Calls Try.prog 9 #[.int .u64 x0, .int .u64 x1] w fun e w' => e = .returned (.bool true) ∧ Below w.heap.size w w' := by
    intro lo hi hl hh hle hor
    have la : len lo ≤ 64 := len_le 64 lo hl
    have lb : len hi ≤ 64 := len_le 64 hi hh
    refine core x0 x1 lo hi (len lo) (len hi) w (i_Len lo hl) (i_Len hi hh) (i_LeadingZeros lo hl) (i_LeadingZeros hi hh) la lb (lenIs_mono lo hi _ _ hle (lenIs_len lo) (lenIs_len hi)) hor ?_
    by_cases hz : lo = 0
    · left
      have := (lenIs_zero_iff lo _ (lenIs_len lo)).2 hz
      exact ⟨by simp; omega, by simp; omega⟩
    · right
      have hne : len lo ≠ 0 := fun e => hz ((lenIs_zero_iff lo _ (lenIs_len lo)).1 e)
      have h := lenIs_shift lo _ (lenIs_len lo) hne
      refine ⟨by simp; omega, by omega, ?_⟩
      have e : ((lo : Int) / 2 ^ (len lo - 1)) = ((lo / 2 ^ (len lo - 1) : Nat) : Int) := by simp
      rw [e, h]; rfl
  rcases Nat.lt_trichotomy x0 x1 with h | h | h
  · exact key x0 x1 h0 h1 (by omega) (Or.inl ⟨rfl, rfl, h⟩)
  · exact key x0 x0 h0 h0 (by omega) (Or.inr (Or.inr ⟨rfl, rfl, h.symm⟩))
  · exact key x1 x0 h1 h0 (by omega) (Or.inr (Or.inl ⟨rfl, rfl, h⟩))

set_option maxRecDepth 100000 in
theorem lifted (os : Os) (started : os.Started) (H : Type) (enc : TypeId × Value → H) :
    ReturnsInHanded {} Try.checked os 9 .any (Rows.fnLengthsSpec.pre6 enc Try.prog Try.f9 Rows.fnLengthsRow.domain false) (Rows.fnLengthsSpec.post enc Try.prog Try.f9 false true false false) := by
  refine returnsInHanded_of_change (C := Try.checked) own started (by kernel_rfl) Try.func9
    (ChangeSpec.witness6 (enc := enc) (C := Try.checked) false ⟨#[], #[.int .u64 0, .int .u64 0], []⟩ 8 (by kernel_rfl) (by kernel_rfl) (by kernel_rfl) (by kernel_rfl)) ?_
  intro W base args ds gs before hval0 hW hcnd _
  have hval : ∀ (j : Nat) t v, Try.f9.params[j]? = some t → args[j]? = some v → Value.okWide Try.prog W .any base t v := hval0
  have hW' := hW
  obtain ⟨p, q, hA0, hV, rfl, hfz, hnd⟩ := hW
  have hA : DataW.TrodAll enc Try.prog W 0 (fun _ => true) true Try.f9.params.toList args.toList ds p := hA0
  rw [Try.params9] at hA hval
  obtain ⟨v0, vs0, d0, ds0, p0, q0, hargs, rfl, rfl, h0, r0⟩ := trodAll_cons hA
  obtain ⟨v1, vs1, d1, ds1, p1, q1, rfl, rfl, rfl, h1, r1⟩ := trodAll_cons r0
  obtain ⟨rfl, rfl, rfl⟩ := trodAll_nil r1
  obtain rfl : args = #[v0, v1] := by cases args; simp_all
  obtain ⟨rfl, rfl⟩ := trodVars_none hV
  obtain ⟨a0, rfl, rfl, rfl, w0⟩ := open_int Try.underlying22 (hval 0 22 v0 rfl rfl) h0
  obtain ⟨a1, rfl, rfl, rfl, w1⟩ := open_int Try.underlying22 (hval 1 22 v1 rfl rfl) h1
  have b0 := bounds_u64 w0
  obtain ⟨x0, rfl⟩ := Int.eq_ofNat_of_zero_le b0.1
  have b1 := bounds_u64 w1
  obtain ⟨x1, rfl⟩ := Int.eq_ofNat_of_zero_le b1.1
  clear hA0 hval0
  refine (walk x0 (by omega) x1 (by omega) W).mono fun e W' ⟨he, bel⟩ => ?_
  subst he
  exact ⟨_, rfl, _, _, _, [], _, [], hW', trodAll_mk1 (shut_bool Try.underlying4 _), (trodAll_cons_mk (shut_int Try.underlying22 w0) (trodAll_cons_mk (shut_int Try.underlying22 w1) trodAll_mk0)), rfl, bel.frame _, fun h => by cases h⟩

theorem over : Rows.fnLengthsRow.holds Try.pinned (OpenSpec.ofChange Rows.fnLengthsSpec) :=
  OpenClaim.holds_of_wide 9 Try.f9 rfl rfl rfl rfl rfl rfl rfl ⟨rfl, rfl, rfl, rfl, rfl⟩ rfl rfl rfl rfl rfl (by kernel_rfl) Try.func9 (by kernel_rfl)
    (of_decide_eq_true (by kernel_rfl)) (by unfold Func.isWrapper; first | (rw [if_pos (by decide +kernel)]; kernel_rfl) | (rw [if_neg (by decide +kernel)]; exact ⟨rfl, rfl⟩))
    (fun os started H enc _ => lifted os started H enc)

/-- THE STATEMENT -/
theorem proved : Rows.FnLengthsSaid := over
#print axioms proved
end Go.Proofs.Ytbliimclmdigcaa.fnLengths
