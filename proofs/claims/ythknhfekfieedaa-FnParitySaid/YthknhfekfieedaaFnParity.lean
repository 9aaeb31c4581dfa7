/-
  PROVED: FnParity: whether the ones are odd: of x ^ y it is so exactly if it is so of one of them; it is what is left when halves are laid over each other again and again. Its conditions: the given row's own, and no others.
-/
import Derived.Test.YthknhfekfieedaaRows
import Derived.WalkKit
import Derived.ProofKit
import Derived.OpenShut
import Derived.Test.YthknhfekfieedaaLib
import Derived.Test.YthknhfekfieedaaMore
namespace Go.Proofs.Ythknhfekfieedaa.fnParity
open Go.ChangeShapes Go.WideShapes Go.ChangeAt Go.RowKit Go.Lathe

theorem own : ownKnob Try.prog.godebug = none := by kernel_rfl
theorem and1_u64 (c : Nat) (h : c < 18446744073709551616) : bits .and .u64 (c : Int) 1 = ((c % 2 : Nat) : Int) := by
  have e := u64_and_nat c 1 h (by decide)
  rw [show c &&& 1 = c % 2 from Nat.and_two_pow_sub_one_eq_mod c 1] at e
  exact e
theorem fold_xor (f p q : Nat) (hf : f < 18446744073709551616) (hp : p = 2 ^ q) : bits .xor .u64 (f : Int) ((f : Int) / (p : Int)) = ((f ^^^ f / 2 ^ q : Nat) : Int) := by
  subst hp
  have e : (f : Int) / ((2 ^ q : Nat) : Int) = ((f / 2 ^ q : Nat) : Int) := by simp
  rw [e]
  exact u64_xor_nat f _ hf (Nat.lt_of_le_of_lt (Nat.div_le_self _ _) hf)
def width (q : Nat) : Nat := if q = 0 then 1 else q + q
set_option maxHeartbeats 2000000 in
theorem core (x y xy a b c d z P : Nat) (w : World) (_hx : x < 18446744073709551616) (_hP : P ≤ 1)
   (c1 : ∀ w, Calls Try.prog 12 #[.int .u64 x] w fun e w' => e = .returned (.int .i64 a) ∧ w = w')
   (c2 : ∀ w, Calls Try.prog 12 #[.int .u64 y] w fun e w' => e = .returned (.int .i64 b) ∧ w = w')
   (c3 : ∀ w, Calls Try.prog 12 #[.int .u64 xy] w fun e w' => e = .returned (.int .i64 c) ∧ w = w')
   (c4 : ∀ w, Calls Try.prog 12 #[.int .u64 z] w fun e w' => e = .returned (.int .i64 d) ∧ w = w')
   (_e1 : bits .xor .u64 (x : Int) (y : Int) = (xy : Int)) (_e2 : bits .or .u64 (x : Int) 1 = (z : Int))
   (_la : a ≤ 64) (_lb : b ≤ 64) (_lc : c ≤ 64) (_hd : 0 < d)
   (_t1 : (((a : Int) + (b : Int) + (c : Int)) % 2 == 0) = true) (_t2 : (a : Int) % 2 = (P : Int)) (hp : pc 64 x % 2 = P) :
    Calls Try.prog 5 #[.int .u64 x, .int .u64 y] w fun e w' => e = .returned (.bool true) ∧ Below w.heap.size w w' := by
  have C1 := Lib.hid c1; have C2 := Lib.hid c2; have C3 := Lib.hid c3; have C4 := Lib.hid c4
  have HP := Lib.hid hp
  clear c1 c2 c3 c4 hp
  go_enter Try.func5, Try.ntmps5
  go_wp2
  go_loop [5, 6] (fun v i => ∃ f q : Nat, f < 18446744073709551616 ∧ i = .int .i64 q ∧ v = .int .u64 f ∧ (q = 32 ∨ q = 16 ∨ q = 8 ∨ q = 4 ∨ q = 2 ∨ q = 1 ∨ q = 0) ∧ pc (width q) f % 2 = P) (fun _ i => (intOf i).toNat)
  case atStart => exact ⟨x, 32, _hx, rfl, rfl, Or.inl rfl, HP.out⟩
  case round =>
    obtain ⟨f, q, hf, rfl, rfl, hq, hpar⟩ := hrel
    have HPAR := Lib.hid hpar
    clear hpar
    rcases hq with rfl | rfl | rfl | rfl | rfl | rfl | rfl
    · have e : bits .xor .u64 (f : Int) ((f : Int) / 4294967296) = ((f ^^^ f / 2 ^ 32 : Nat) : Int) := fold_xor f 4294967296 32 hf rfl
      have n1 : f ^^^ f / 2 ^ 32 < 18446744073709551616 := Nat.xor_lt_two_pow (n := 64) hf (Nat.lt_of_le_of_lt (Nat.div_le_self _ _) hf)
      have n2 := fold_half 32 f
      have NX : Hid (f ^^^ f / 2 ^ 32 < 18446744073709551616 ∧ pc (width 16) (f ^^^ f / 2 ^ 32) % 2 = P) := ⟨n1, n2.trans HPAR.out⟩
      clear n1 n2 hf
      generalize f ^^^ f / 2 ^ 32 = f2 at e NX
      go_wp2
      go_round
      case rel => exact ⟨f2, 16, NX.out.1, rfl, rfl, by decide, NX.out.2⟩
      case measure => simp [intOf]
    · have e : bits .xor .u64 (f : Int) ((f : Int) / 65536) = ((f ^^^ f / 2 ^ 16 : Nat) : Int) := fold_xor f 65536 16 hf rfl
      have n1 : f ^^^ f / 2 ^ 16 < 18446744073709551616 := Nat.xor_lt_two_pow (n := 64) hf (Nat.lt_of_le_of_lt (Nat.div_le_self _ _) hf)
      have n2 := fold_half 16 f
      have NX : Hid (f ^^^ f / 2 ^ 16 < 18446744073709551616 ∧ pc (width 8) (f ^^^ f / 2 ^ 16) % 2 = P) := ⟨n1, n2.trans HPAR.out⟩
      clear n1 n2 hf
      generalize f ^^^ f / 2 ^ 16 = f2 at e NX
      go_wp2
      go_round
      case rel => exact ⟨f2, 8, NX.out.1, rfl, rfl, by decide, NX.out.2⟩
      case measure => simp [intOf]
    · have e : bits .xor .u64 (f : Int) ((f : Int) / 256) = ((f ^^^ f / 2 ^ 8 : Nat) : Int) := fold_xor f 256 8 hf rfl
      have n1 : f ^^^ f / 2 ^ 8 < 18446744073709551616 := Nat.xor_lt_two_pow (n := 64) hf (Nat.lt_of_le_of_lt (Nat.div_le_self _ _) hf)
      have n2 := fold_half 8 f
      have NX : Hid (f ^^^ f / 2 ^ 8 < 18446744073709551616 ∧ pc (width 4) (f ^^^ f / 2 ^ 8) % 2 = P) := ⟨n1, n2.trans HPAR.out⟩
      clear n1 n2 hf
      generalize f ^^^ f / 2 ^ 8 = f2 at e NX
      go_wp2
      go_round
      case rel => exact ⟨f2, 4, NX.out.1, rfl, rfl, by decide, NX.out.2⟩
      case measure => simp [intOf]
    · have e : bits .xor .u64 (f : Int) ((f : Int) / 16) = ((f ^^^ f / 2 ^ 4 : Nat) : Int) := fold_xor f 16 4 hf rfl
      have n1 : f ^^^ f / 2 ^ 4 < 18446744073709551616 := Nat.xor_lt_two_pow (n := 64) hf (Nat.lt_of_le_of_lt (Nat.div_le_self _ _) hf)
      have n2 := fold_half 4 f
      have NX : Hid (f ^^^ f / 2 ^ 4 < 18446744073709551616 ∧ pc (width 2) (f ^^^ f / 2 ^ 4) % 2 = P) := ⟨n1, n2.trans HPAR.out⟩
      clear n1 n2 hf
      generalize f ^^^ f / 2 ^ 4 = f2 at e NX
      go_wp2
      go_round
      case rel => exact ⟨f2, 2, NX.out.1, rfl, rfl, by decide, NX.out.2⟩
      case measure => simp [intOf]
    · have e : bits .xor .u64 (f : Int) ((f : Int) / 4) = ((f ^^^ f / 2 ^ 2 : Nat) : Int) := fold_xor f 4 2 hf rfl
      have n1 : f ^^^ f / 2 ^ 2 < 18446744073709551616 := Nat.xor_lt_two_pow (n := 64) hf (Nat.lt_of_le_of_lt (Nat.div_le_self _ _) hf)
      have n2 := fold_half 2 f
      have NX : Hid (f ^^^ f / 2 ^ 2 < 18446744073709551616 ∧ pc (width 1) (f ^^^ f / 2 ^ 2) % 2 = P) := ⟨n1, n2.trans HPAR.out⟩
      clear n1 n2 hf
      generalize f ^^^ f / 2 ^ 2 = f2 at e NX
      go_wp2
      go_round
      case rel => exact ⟨f2, 1, NX.out.1, rfl, rfl, by decide, NX.out.2⟩
      case measure => simp [intOf]
    · have e : bits .xor .u64 (f : Int) ((f : Int) / 2) = ((f ^^^ f / 2 ^ 1 : Nat) : Int) := fold_xor f 2 1 hf rfl
      have n1 : f ^^^ f / 2 ^ 1 < 18446744073709551616 := Nat.xor_lt_two_pow (n := 64) hf (Nat.lt_of_le_of_lt (Nat.div_le_self _ _) hf)
      have n2 := fold_half 1 f
      have NX : Hid (f ^^^ f / 2 ^ 1 < 18446744073709551616 ∧ pc (width 0) (f ^^^ f / 2 ^ 1) % 2 = P) := ⟨n1, n2.trans HPAR.out⟩
      clear n1 n2 hf
      generalize f ^^^ f / 2 ^ 1 = f2 at e NX
      go_wp2
      go_round
      case rel => exact ⟨f2, 0, NX.out.1, rfl, rfl, by decide, NX.out.2⟩
      case measure => simp [intOf]
    · have e := and1_u64 f hf
      have e5 : f % 2 = P := by
        have := HPAR.out
        have h2 := fold_bit f
        have h3 : width 0 = 1 := rfl
        rw [h3, ← h2] at this
        omega
      rw [e5] at e
      clear e5 hf
      go_wp2_with (go_at_call 12; (first | (with_reducible refine (C1.out _).mono ?_) | (with_reducible refine (C2.out _).mono ?_) | (with_reducible refine (C3.out _).mono ?_) | (with_reducible refine (C4.out _).mono ?_)); rintro e w' ⟨rfl, rfl⟩)
      go_ret
      exact ⟨rfl, Below.refl _ _⟩
theorem walk (x0 : Nat) (h0 : x0 < 18446744073709551616) (x1 : Nat) (h1 : x1 < 18446744073709551616) (w : World) :
    Calls Try.prog 5 #[.int .u64 x0, .int .u64 x1] w fun e w' => e = .returned (.bool true) ∧ Below w.heap.size w w' := by
  have hxy : x0 ^^^ x1 < 18446744073709551616 := Nat.xor_lt_two_pow (n := 64) h0 h1
  have hz : x0 ||| 1 < 18446744073709551616 := Nat.or_lt_two_pow (n := 64) h0 (by decide)
  have p := pc_xor 64 x0 x1
  have hd : pc 64 (x0 ||| 1) ≠ 0 := fun h => by
    have := (pc_eq_zero 64 _ hz).1 h
    have h2 : (x0 ||| 1).testBit 0 = true := by rw [Nat.testBit_or]; simp
    rw [this] at h2
    simp at h2
  exact core x0 x1 _ _ _ _ _ _ (pc 64 x0 % 2) w h0 (by omega) (i_OnesCount64 x0 h0) (i_OnesCount64 x1 h1) (i_OnesCount64 _ hxy) (i_OnesCount64 _ hz) (u64_xor_nat x0 x1 h0 h1) (u64_or_nat x0 1 h0 (by decide))
    (pc_le _ _) (pc_le _ _) (pc_le _ _) (by omega) (by simp only [beq_iff_eq]; omega) (by omega) rfl

set_option maxRecDepth 100000 in
theorem lifted (os : Os) (started : os.Started) (H : Type) (enc : TypeId × Value → H) :
    ReturnsInHanded {} Try.checked os 5 .any (Rows.fnParitySpec.pre6 enc Try.prog Try.f5 Rows.fnParityRow.domain false) (Rows.fnParitySpec.post enc Try.prog Try.f5 false true false false) := by
  refine returnsInHanded_of_change (C := Try.checked) own started (by kernel_rfl) Try.func5
    (ChangeSpec.witness6 (enc := enc) (C := Try.checked) false ⟨#[], #[.int .u64 0, .int .u64 0], []⟩ 8 (by kernel_rfl) (by kernel_rfl) (by kernel_rfl) (by kernel_rfl)) ?_
  intro W base args ds gs before hval0 hW hcnd _
  have hval : ∀ (j : Nat) t v, Try.f5.params[j]? = some t → args[j]? = some v → Value.okWide Try.prog W .any base t v := hval0
  have hW' := hW
  obtain ⟨p, q, hA0, hV, rfl, hfz, hnd⟩ := hW
  have hA : DataW.TrodAll enc Try.prog W 0 (fun _ => true) true Try.f5.params.toList args.toList ds p := hA0
  rw [Try.params5] at hA hval
  obtain ⟨v0, vs0, d0, ds0, p0, q0, hargs, rfl, rfl, h0, r0⟩ := trodAll_cons hA
  obtain ⟨v1, vs1, d1, ds1, p1, q1, rfl, rfl, rfl, h1, r1⟩ := trodAll_cons r0
  obtain ⟨rfl, rfl, rfl⟩ := trodAll_nil r1
  obtain rfl : args = #[v0, v1] := by cases args; simp_all
  obtain ⟨rfl, rfl⟩ := trodVars_none hV
  obtain ⟨a0, rfl, rfl, rfl, w0⟩ := open_int Try.underlying22 (hval 0 22 v0 rfl rfl) h0
  obtain ⟨a1, rfl, rfl, rfl, w1⟩ := open_int Try.underlying22 (hval 1 22 v1 rfl rfl) h1
  have b0 := bounds_u64 w0
  obtain ⟨x0, rfl⟩ := Int.eq_ofNat_of_zero_le b0.1
  have b1 := bounds_u64 w1
  obtain ⟨x1, rfl⟩ := Int.eq_ofNat_of_zero_le b1.1
  clear hA0 hval0
  refine (walk x0 (by omega) x1 (by omega) W).mono fun e W' ⟨he, bel⟩ => ?_
  subst he
  exact ⟨_, rfl, _, _, _, [], _, [], hW', trodAll_mk1 (shut_bool Try.underlying4 _), (trodAll_cons_mk (shut_int Try.underlying22 w0) (trodAll_cons_mk (shut_int Try.underlying22 w1) trodAll_mk0)), rfl, bel.frame _, fun h => by cases h⟩

theorem over : Rows.fnParityRow.holds Try.pinned (OpenSpec.ofChange Rows.fnParitySpec) :=
  OpenClaim.holds_of_wide 5 Try.f5 rfl rfl rfl rfl rfl rfl rfl ⟨rfl, rfl, rfl, rfl, rfl⟩ rfl rfl rfl rfl rfl (by kernel_rfl) Try.func5 (by kernel_rfl)
    (of_decide_eq_true (by kernel_rfl)) (by unfold Func.isWrapper; first | (rw [if_pos (by decide +kernel)]; kernel_rfl) | (rw [if_neg (by decide +kernel)]; exact ⟨rfl, rfl⟩))
    (fun os started H enc _ => lifted os started H enc)

/-- THE STATEMENT -/
theorem proved : Rows.FnParitySaid := over
#print axioms proved
end Go.Proofs.Ythknhfekfieedaa.fnParity
