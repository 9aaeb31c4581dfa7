/-
  PROVED: FnRotations: rotating by j and then by k is rotating by j + k, whatever wraps; by k and then by -k it gives the number again; by 0 and by all bits nothing moves; reversed, it goes the other way round; the ones stay as many. Its conditions: the given row's own, and no others.
-/
import Derived.Test.YtbliimclmdigcaaRows
import Derived.WalkKit
import Derived.ProofKit
import Derived.OpenShut
import Derived.Test.YtbliimclmdigcaaLib
namespace Go.Proofs.Ytbliimclmdigcaa.fnRotations
open Go.ChangeShapes Go.WideShapes Go.ChangeAt Go.RowKit Go.Lathe

theorem own : ownKnob Try.prog.godebug = none := by kernel_rfl
set_option maxHeartbeats 4000000 in
theorem core (x v u z p q a : Nat) (j k : Int) (w : World)
   (c1 : ∀ w, Calls Try.prog 18 #[.int .u64 x, .int .i64 k] w fun e w' => e = .returned (.int .u64 u) ∧ w = w')
   (c2 : ∀ w, Calls Try.prog 18 #[.int .u64 x, .int .i64 j] w fun e w' => e = .returned (.int .u64 v) ∧ w = w')
   (c3 : ∀ w, Calls Try.prog 18 #[.int .u64 v, .int .i64 k] w fun e w' => e = .returned (.int .u64 z) ∧ w = w')
   (c4 : ∀ w, Calls Try.prog 18 #[.int .u64 x, .int .i64 (wrap64 (j + k))] w fun e w' => e = .returned (.int .u64 z) ∧ w = w')
   (c5 : ∀ w, Calls Try.prog 18 #[.int .u64 u, .int .i64 (wrap64 (-k))] w fun e w' => e = .returned (.int .u64 x) ∧ w = w')
   (c6 : ∀ w, Calls Try.prog 18 #[.int .u64 x, .int .i64 0] w fun e w' => e = .returned (.int .u64 x) ∧ w = w')
   (c7 : ∀ w, Calls Try.prog 18 #[.int .u64 x, .int .i64 64] w fun e w' => e = .returned (.int .u64 x) ∧ w = w')
   (c8 : ∀ w, Calls Try.prog 18 #[.int .u64 q, .int .i64 (wrap64 (-k))] w fun e w' => e = .returned (.int .u64 p) ∧ w = w')
   (d1 : ∀ w, Calls Try.prog 22 #[.int .u64 u] w fun e w' => e = .returned (.int .u64 p) ∧ w = w')
   (d2 : ∀ w, Calls Try.prog 22 #[.int .u64 x] w fun e w' => e = .returned (.int .u64 q) ∧ w = w')
   (d3 : ∀ w, Calls Try.prog 28 #[.int .u64 u] w fun e w' => e = .returned (.int .i64 a) ∧ w = w')
   (d4 : ∀ w, Calls Try.prog 28 #[.int .u64 x] w fun e w' => e = .returned (.int .i64 a) ∧ w = w') :
    Calls Try.prog 15 #[.int .u64 x, .int .i64 j, .int .i64 k] w fun e w' => e = .returned (.bool true) ∧ Below w.heap.size w w' := by
  have C1 := Lib.hid c1; have C2 := Lib.hid c2; have C3 := Lib.hid c3; have C4 := Lib.hid c4; have C5 := Lib.hid c5; have C6 := Lib.hid c6; have C7 := Lib.hid c7; have C8 := Lib.hid c8
  have D1 := Lib.hid d1; have D2 := Lib.hid d2; have D3 := Lib.hid d3; have D4 := Lib.hid d4
  clear c1 c2 c3 c4 c5 c6 c7 c8 d1 d2 d3 d4
  go_enter Try.func15, Try.ntmps15
  go_wp2_with (first
    | ((with_reducible refine wpList_slot ?_ _ 18 _ _ rfl ?_ enters_RotateLeft ?_); rfl; rfl; intro K hK; go_simp)
    | (go_at_call 18; (first | (with_reducible refine (C1.out _).mono ?_) | (with_reducible refine (C2.out _).mono ?_) | (with_reducible refine (C3.out _).mono ?_) | (with_reducible refine (C4.out _).mono ?_) | (with_reducible refine (C5.out _).mono ?_) | (with_reducible refine (C6.out _).mono ?_) | (with_reducible refine (C7.out _).mono ?_) | (with_reducible refine (C8.out _).mono ?_)); rintro e w' ⟨rfl, rfl⟩)
    | (go_at_call 24; (with_reducible refine (i_Len_max _).mono ?_); rintro e w' ⟨rfl, rfl⟩)
    | (go_at_call 22; (first | (with_reducible refine (D1.out _).mono ?_) | (with_reducible refine (D2.out _).mono ?_)); rintro e w' ⟨rfl, rfl⟩)
    | (go_at_call 28; (first | (with_reducible refine (D3.out _).mono ?_) | (with_reducible refine (D4.out _).mono ?_)); rintro e w' ⟨rfl, rfl⟩))
  go_ret
  first
    | exact ⟨rfl, Below.refl _ _⟩
    | exact ⟨rfl, below_drewN (Below.refl _ _) _⟩
theorem walk (x0 : Nat) (h0 : x0 < 18446744073709551616) (j : Int) (_ : -9223372036854775808 ≤ j) (_ : j ≤ 9223372036854775807) (k : Int) (_ : -9223372036854775808 ≤ k) (_ : k ≤ 9223372036854775807) (w : World) :
    Calls Try.prog 15 #[.int .u64 x0, .int .i64 j, .int .i64 k] w fun e w' => e = .returned (.bool true) ∧ Below w.heap.size w w' := by
  have ha : (j % 64).toNat < 64 := by omega
  have hb : (k % 64).toNat < 64 := by omega
  have lv : rotl 64 x0 (j % 64).toNat < 18446744073709551616 := rotl_lt _ _ _
  have lu : rotl 64 x0 (k % 64).toNat < 18446744073709551616 := rotl_lt _ _ _
  have lq : rev 64 x0 < 18446744073709551616 := rev_lt _ _
  have c3 := i_RotateLeft (rotl 64 x0 (j % 64).toNat) k lv
  have c4 := i_RotateLeft x0 (wrap64 (j + k)) h0
  have e4 : (wrap64 (j + k) % 64).toNat = ((j % 64).toNat + (k % 64).toNat) % 64 := by unfold wrap64; omega
  rw [e4, ← rotl_rotl 64 x0 _ _ ha hb] at c4
  have en : (wrap64 (-k) % 64).toNat = (64 - (k % 64).toNat) % 64 := by unfold wrap64; omega
  have c5 := i_RotateLeft (rotl 64 x0 (k % 64).toNat) (wrap64 (-k)) lu
  rw [en, rotl_rotl 64 x0 _ _ hb (Nat.mod_lt _ (by decide)), show ((k % 64).toNat + (64 - (k % 64).toNat) % 64) % 64 = 0 by omega, rotl_zero 64 x0 h0] at c5
  have c6 := i_RotateLeft x0 0 h0
  rw [show ((0 : Int) % 64).toNat = 0 from rfl, rotl_zero 64 x0 h0] at c6
  have c7 := i_RotateLeft x0 64 h0
  rw [show ((64 : Int) % 64).toNat = 0 from rfl, rotl_zero 64 x0 h0] at c7
  have c8 := i_RotateLeft (rev 64 x0) (wrap64 (-k)) lq
  rw [en, ← rev_rotl 64 x0 _ hb] at c8
  have d3 := i_OnesCount (rotl 64 x0 (k % 64).toNat) lu
  rw [pc_rotl 64 x0 _ (by omega)] at d3
  exact core x0 _ _ _ _ _ _ j k w (i_RotateLeft x0 k h0) (i_RotateLeft x0 j h0) c3 c4 c5 c6 c7 c8 (i_Reverse _ lu) (i_Reverse x0 h0) d3 (i_OnesCount x0 h0)

set_option maxRecDepth 100000 in
theorem lifted (os : Os) (started : os.Started) (H : Type) (enc : TypeId × Value → H) :
    ReturnsInHanded {} Try.checked os 15 .any (Rows.fnRotationsSpec.pre6 enc Try.prog Try.f15 Rows.fnRotationsRow.domain false) (Rows.fnRotationsSpec.post enc Try.prog Try.f15 false true false false) := by
  refine returnsInHanded_of_change (C := Try.checked) own started (by kernel_rfl) Try.func15
    (ChangeSpec.witness6 (enc := enc) (C := Try.checked) false ⟨#[], #[.int .u64 0, .int .i64 0, .int .i64 0], []⟩ 8 (by kernel_rfl) (by kernel_rfl) (by kernel_rfl) (by kernel_rfl)) ?_
  intro W base args ds gs before hval0 hW hcnd _
  have hval : ∀ (j : Nat) t v, Try.f15.params[j]? = some t → args[j]? = some v → Value.okWide Try.prog W .any base t v := hval0
  have hW' := hW
  obtain ⟨p, q, hA0, hV, rfl, hfz, hnd⟩ := hW
  have hA : DataW.TrodAll enc Try.prog W 0 (fun _ => true) true Try.f15.params.toList args.toList ds p := hA0
  rw [Try.params15] at hA hval
  obtain ⟨v0, vs0, d0, ds0, p0, q0, hargs, rfl, rfl, h0, r0⟩ := trodAll_cons hA
  obtain ⟨v1, vs1, d1, ds1, p1, q1, rfl, rfl, rfl, h1, r1⟩ := trodAll_cons r0
  obtain ⟨v2, vs2, d2, ds2, p2, q2, rfl, rfl, rfl, h2, r2⟩ := trodAll_cons r1
  obtain ⟨rfl, rfl, rfl⟩ := trodAll_nil r2
  obtain rfl : args = #[v0, v1, v2] := by cases args; simp_all
  obtain ⟨rfl, rfl⟩ := trodVars_none hV
  obtain ⟨a0, rfl, rfl, rfl, w0⟩ := open_int Try.underlying22 (hval 0 22 v0 rfl rfl) h0
  obtain ⟨a1, rfl, rfl, rfl, w1⟩ := open_int Try.underlying3 (hval 1 3 v1 rfl rfl) h1
  obtain ⟨a2, rfl, rfl, rfl, w2⟩ := open_int Try.underlying3 (hval 2 3 v2 rfl rfl) h2
  have b0 := bounds_u64 w0
  obtain ⟨x0, rfl⟩ := Int.eq_ofNat_of_zero_le b0.1
  have b1 := bounds_i64 w1
  have b2 := bounds_i64 w2
  clear hA0 hval0
  refine (walk x0 (by omega) a1 (by omega) (by omega) a2 (by omega) (by omega) W).mono fun e W' ⟨he, bel⟩ => ?_
  subst he
  exact ⟨_, rfl, _, _, _, [], _, [], hW', trodAll_mk1 (shut_bool Try.underlying4 _), (trodAll_cons_mk (shut_int Try.underlying22 w0) (trodAll_cons_mk (shut_int Try.underlying3 w1) (trodAll_cons_mk (shut_int Try.underlying3 w2) trodAll_mk0))), rfl, bel.frame _, fun h => by cases h⟩

theorem over : Rows.fnRotationsRow.holds Try.pinned (OpenSpec.ofChange Rows.fnRotationsSpec) :=
  OpenClaim.holds_of_wide 15 Try.f15 rfl rfl rfl rfl rfl rfl rfl ⟨rfl, rfl, rfl, rfl, rfl⟩ rfl rfl rfl rfl rfl (by kernel_rfl) Try.func15 (by kernel_rfl)
    (of_decide_eq_true (by kernel_rfl)) (by unfold Func.isWrapper; first | (rw [if_pos (by decide +kernel)]; kernel_rfl) | (rw [if_neg (by decide +kernel)]; exact ⟨rfl, rfl⟩))
    (fun os started H enc _ => lifted os started H enc)

/-- THE STATEMENT -/
theorem proved : Rows.FnRotationsSaid := over
#print axioms proved
end Go.Proofs.Ytbliimclmdigcaa.fnRotations
