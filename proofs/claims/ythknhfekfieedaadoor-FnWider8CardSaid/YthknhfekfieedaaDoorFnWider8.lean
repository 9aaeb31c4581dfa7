/-
  PROVED: FnWider8: what is said of a number of 8 bits is said of the same number of more bits, as far as the width goes. Its conditions: the given row's own, and no others.
-/
import Derived.Test.YthknhfekfieedaaDoorCards
import Derived.Test.YthknhfekfieedaaDoorTie
import Derived.Deep.DeepHandedRow
import Derived.Lib.LaidTab
import Derived.Stop.LaidErr
import Derived.Test.YthknhfekfieedaaDoorRows
import Derived.WalkKit
import Derived.ProofKit
import Derived.OpenShut
import Derived.Test.YthknhfekfieedaaDoorLib
import Derived.Test.YthknhfekfieedaaDoorMore
import Derived.Test.YthknhfekfieedaaDoorTz
namespace Go.Proofs.YthknhfekfieedaaDoor.fnWider8
open Go.ChangeShapes Go.WideShapes Go.ChangeAt Go.RowKit Go.Lathe

theorem own : ownKnob Tryd.prog.godebug = none := by kernel_rfl
set_option maxHeartbeats 4000000 in
theorem core (x a l T8 T16 T32 T64 R8 R16 R32 R64 : Nat) (w : World) (_hx : x < 256) (_ll : l ≤ 8) (_la : a ≤ 8)
   (o8 : ∀ w, Calls Tryd.prog 21 #[.int .u8 x] w fun e w' => e = .returned (.int .i64 a) ∧ w = w')
   (o16 : ∀ w, Calls Tryd.prog 10 #[.int .u16 x] w fun e w' => e = .returned (.int .i64 a) ∧ ∃ nq, w' = w.drewN nq)
   (o32 : ∀ w, Calls Tryd.prog 8 #[.int .u32 x] w fun e w' => e = .returned (.int .i64 a) ∧ ∃ nq, w' = w.drewN nq)
   (o64 : ∀ w, Calls Tryd.prog 9 #[.int .u64 x] w fun e w' => e = .returned (.int .i64 a) ∧ w = w')
   (l8 : ∀ w, Calls Tryd.prog 27 #[.int .u8 x] w fun e w' => e = .returned (.int .i64 l) ∧ w = w')
   (l16 : ∀ w, Calls Tryd.prog 22 #[.int .u16 x] w fun e w' => e = .returned (.int .i64 l) ∧ w = w')
   (l32 : ∀ w, Calls Tryd.prog 11 #[.int .u32 x] w fun e w' => e = .returned (.int .i64 l) ∧ w = w')
   (l64 : ∀ w, Calls Tryd.prog 12 #[.int .u64 x] w fun e w' => e = .returned (.int .i64 l) ∧ w = w')
   (z8 : ∀ w, Calls Tryd.prog 28 #[.int .u8 x] w fun e w' => e = .returned (.int .i64 (8 - (l : Int))) ∧ w = w')
   (z16 : ∀ w, Calls Tryd.prog 23 #[.int .u16 x] w fun e w' => e = .returned (.int .i64 (16 - (l : Int))) ∧ w = w')
   (z32 : ∀ w, Calls Tryd.prog 13 #[.int .u32 x] w fun e w' => e = .returned (.int .i64 (32 - (l : Int))) ∧ w = w')
   (z64 : ∀ w, Calls Tryd.prog 14 #[.int .u64 x] w fun e w' => e = .returned (.int .i64 (64 - (l : Int))) ∧ w = w')
   (t8 : ∀ nq, Calls Tryd.prog 29 #[.int .u8 x] (w.drewN nq) fun e w' => e = .returned (.int .i64 T8) ∧ w.drewN nq = w')
   (t16 : ∀ nq, Calls Tryd.prog 24 #[.int .u16 x] (w.drewN nq) fun e w' => e = .returned (.int .i64 T16) ∧ w.drewN nq = w')
   (t32 : ∀ nq, Calls Tryd.prog 15 #[.int .u32 x] (w.drewN nq) fun e w' => e = .returned (.int .i64 T32) ∧ w.drewN nq = w')
   (t64 : ∀ nq, Calls Tryd.prog 16 #[.int .u64 x] (w.drewN nq) fun e w' => e = .returned (.int .i64 T64) ∧ w.drewN nq = w')
   (r8 : ∀ w, Calls Tryd.prog 30 #[.int .u8 x] w fun e w' => e = .returned (.int .u8 R8) ∧ w = w')
   (r16 : ∀ w, Calls Tryd.prog 25 #[.int .u16 x] w fun e w' => e = .returned (.int .u16 R16) ∧ ∃ nq, w' = w.drewN nq)
   (r32 : ∀ w, Calls Tryd.prog 17 #[.int .u32 x] w fun e w' => e = .returned (.int .u32 R32) ∧ w = w')
   (r64 : ∀ w, Calls Tryd.prog 18 #[.int .u64 x] w fun e w' => e = .returned (.int .u64 R64) ∧ w = w')
   (_s16 : IntKind.u16.wrap ((R8 : Int) * 256) = (R16 : Int)) (_sb16 : (R8 : Int) * 256 = (R16 : Int)) (_s32 : (R8 : Int) * 16777216 % 4294967296 = (R32 : Int)) (_sb32 : (R8 : Int) * 16777216 = (R32 : Int)) (_s64 : IntKind.u64.wrap ((R8 : Int) * 72057594037927936) = (R64 : Int)) (_sb64 : (R8 : Int) * 72057594037927936 = (R64 : Int))
   (_lr : R8 < 256)
   (_ht : (T16 = T8 ∧ T32 = T8 ∧ T64 = T8 ∧ T8 < 8) ∨ (T8 = 8 ∧ T16 = 16 ∧ T32 = 32 ∧ T64 = 64)) :
    Calls Tryd.prog 5 #[.int .u8 x] w fun e w' => e = .returned (.bool true) ∧ Below w.heap.size w w' := by
  have Ho8 := Lib.hid o8; have Ho16 := Lib.hid o16; have Ho32 := Lib.hid o32; have Ho64 := Lib.hid o64; have Hl8 := Lib.hid l8; have Hl16 := Lib.hid l16; have Hl32 := Lib.hid l32; have Hl64 := Lib.hid l64; have Hz8 := Lib.hid z8; have Hz16 := Lib.hid z16; have Hz32 := Lib.hid z32; have Hz64 := Lib.hid z64; have Ht8 := Lib.hid t8; have Ht16 := Lib.hid t16; have Ht32 := Lib.hid t32; have Ht64 := Lib.hid t64; have Hr8 := Lib.hid r8; have Hr16 := Lib.hid r16; have Hr32 := Lib.hid r32; have Hr64 := Lib.hid r64
  clear o8 o16 o32 o64 l8 l16 l32 l64 z8 z16 z32 z64 t8 t16 t32 t64 r8 r16 r32 r64
  rcases _ht with ⟨rfl, rfl, rfl, ht⟩ | ⟨rfl, rfl, rfl, rfl⟩
  all_goals
    go_enter Tryd.func5, Tryd.ntmps5
    go_wp2_with (first | (go_at_call 21; (first | (with_reducible refine (Ho8.out _).mono ?_)); rintro e w' ⟨rfl, rfl⟩) | (go_at_call 10; (first | (with_reducible refine (Ho16.out _).mono ?_)); rintro e w' ⟨rfl, nq, rfl⟩) | (go_at_call 8; (first | (with_reducible refine (Ho32.out _).mono ?_)); rintro e w' ⟨rfl, nq, rfl⟩) | (go_at_call 9; (first | (with_reducible refine (Ho64.out _).mono ?_)); rintro e w' ⟨rfl, rfl⟩) | (go_at_call 27; (first | (with_reducible refine (Hl8.out _).mono ?_)); rintro e w' ⟨rfl, rfl⟩) | (go_at_call 22; (first | (with_reducible refine (Hl16.out _).mono ?_)); rintro e w' ⟨rfl, rfl⟩) | (go_at_call 11; (first | (with_reducible refine (Hl32.out _).mono ?_)); rintro e w' ⟨rfl, rfl⟩) | (go_at_call 12; (first | (with_reducible refine (Hl64.out _).mono ?_)); rintro e w' ⟨rfl, rfl⟩) | (go_at_call 28; (first | (with_reducible refine (Hz8.out _).mono ?_)); rintro e w' ⟨rfl, rfl⟩) | (go_at_call 23; (first | (with_reducible refine (Hz16.out _).mono ?_)); rintro e w' ⟨rfl, rfl⟩) | (go_at_call 13; (first | (with_reducible refine (Hz32.out _).mono ?_)); rintro e w' ⟨rfl, rfl⟩) | (go_at_call 14; (first | (with_reducible refine (Hz64.out _).mono ?_)); rintro e w' ⟨rfl, rfl⟩) | (go_at_call 29; (first | (with_reducible refine (Ht8.out _).mono ?_) | (refine (Ht8.out 0).mono ?_)); rintro e w' ⟨rfl, rfl⟩) | (go_at_call 24; (first | (with_reducible refine (Ht16.out _).mono ?_) | (refine (Ht16.out 0).mono ?_)); rintro e w' ⟨rfl, rfl⟩) | (go_at_call 15; (first | (with_reducible refine (Ht32.out _).mono ?_) | (refine (Ht32.out 0).mono ?_)); rintro e w' ⟨rfl, rfl⟩) | (go_at_call 16; (first | (with_reducible refine (Ht64.out _).mono ?_) | (refine (Ht64.out 0).mono ?_)); rintro e w' ⟨rfl, rfl⟩) | (go_at_call 30; (first | (with_reducible refine (Hr8.out _).mono ?_)); rintro e w' ⟨rfl, rfl⟩) | (go_at_call 25; (first | (with_reducible refine (Hr16.out _).mono ?_)); rintro e w' ⟨rfl, nq, rfl⟩) | (go_at_call 17; (first | (with_reducible refine (Hr32.out _).mono ?_)); rintro e w' ⟨rfl, rfl⟩) | (go_at_call 18; (first | (with_reducible refine (Hr64.out _).mono ?_)); rintro e w' ⟨rfl, rfl⟩))
    go_ret
    first
      | exact ⟨rfl, Below.refl _ _⟩
      | exact ⟨rfl, below_drewN (Below.refl _ _) _⟩
theorem walk (x0 : Nat) (h0 : x0 < 256) (w : World) (T32 : TabAt 0 Lib.deBruijn32tab w) (T64 : TabAt 1 Lib.deBruijn64tab w) :
    Calls Tryd.prog 5 #[.int .u8 x0] w fun e w' => e = .returned (.bool true) ∧ Below w.heap.size w w' := by
  have h16 : x0 < 65536 := by omega
  have h32 : x0 < 4294967296 := by omega
  have h64 : x0 < 18446744073709551616 := by omega
  have h8 := h0
  have c16 := i_OnesCount16 x0 h16
  rw [show pc 16 x0 = pc 8 x0 from pc_wider 8 8 x0 h0] at c16
  have s16 : ((rev 8 x0 : Nat) : Int) * 256 = ((rev 16 x0 : Nat) : Int) := by rw [show rev 16 x0 = rev 8 x0 * 2 ^ 8 from rev_wide 8 8 x0 h0]; rfl
  have lr16 : rev 16 x0 < 65536 := rev_lt 16 x0
  have q16 : IntKind.u16.wrap (((rev 8 x0 : Nat) : Int) * 256) = ((rev 16 x0 : Nat) : Int) := by
    rw [wrapw_u16]
    rw [s16]; omega
  have c32 := i_OnesCount32 x0 h32
  rw [show pc 32 x0 = pc 8 x0 from pc_wider 8 24 x0 h0] at c32
  have s32 : ((rev 8 x0 : Nat) : Int) * 16777216 = ((rev 32 x0 : Nat) : Int) := by rw [show rev 32 x0 = rev 8 x0 * 2 ^ 24 from rev_wide 8 24 x0 h0]; rfl
  have lr32 : rev 32 x0 < 4294967296 := rev_lt 32 x0
  have q32 : ((rev 8 x0 : Nat) : Int) * 16777216 % 4294967296 = ((rev 32 x0 : Nat) : Int) := by
    skip
    rw [s32]; omega
  have c64 := i_OnesCount64 x0 h64
  rw [show pc 64 x0 = pc 8 x0 from pc_wider 8 56 x0 h0] at c64
  have s64 : ((rev 8 x0 : Nat) : Int) * 72057594037927936 = ((rev 64 x0 : Nat) : Int) := by rw [show rev 64 x0 = rev 8 x0 * 2 ^ 56 from rev_wide 8 56 x0 h0]; rfl
  have lr64 : rev 64 x0 < 18446744073709551616 := rev_lt 64 x0
  have q64 : IntKind.u64.wrap (((rev 8 x0 : Nat) : Int) * 72057594037927936) = ((rev 64 x0 : Nat) : Int) := by
    rw [wrapw_u64]
    rw [s64]; omega
  refine core x0 (pc 8 x0) (len x0) _ _ _ _ _ _ _ _ w h0 (len_le 8 x0 h0) (pc_le 8 x0) (i_OnesCount8 x0 h8) c16 c32 c64 (i_Len8 x0 h8) (i_Len16 x0 h16) (i_Len32 x0 h32) (i_Len64 x0 h64) (i_LeadingZeros8 x0 h8) (i_LeadingZeros16 x0 h16) (i_LeadingZeros32 x0 h32) (i_LeadingZeros64 x0 h64) (fun nq => i_TrailingZeros8 x0 h8 (w.drewN nq)) (fun nq => i_TrailingZeros16 x0 h16 (w.drewN nq) T32) (fun nq => i_TrailingZeros32 x0 h32 (w.drewN nq) T32) (fun nq => i_TrailingZeros64 x0 h64 (w.drewN nq) T64) (i_Reverse8 x0 h8) (i_Reverse16 x0 h16) (i_Reverse32 x0 h32) (i_Reverse64 x0 h64) q16 s16 q32 s32 q64 s64 (rev_lt 8 x0) ?_
  by_cases hz : x0 = 0
  · right; rw [hz]; exact ⟨tz_zero 8, tz_zero 16, tz_zero 32, tz_zero 64⟩
  · left
    have ht := lowAt_tz 8 x0 hz h0
    exact ⟨tz_eq 16 x0 _ h16 ht, tz_eq 32 x0 _ h32 ht, tz_eq 64 x0 _ h64 ht, lowAt_lt 8 x0 _ h0 ht⟩
theorem gTab0 : Tryd.prog.globalNamed "math/bits.deBruijn32tab" = some 0 := by kernel_rfl
theorem gTabType0 : (Tryd.prog.globals[0]?).map (·.type) = some 44 := by kernel_rfl
theorem cellsT0 : Tryd.prog.cellsOf 44 = 32 := by kernel_rfl
theorem cellsE0 : Tryd.prog.cellsOf 5 = 1 := by kernel_rfl
theorem table0 {W : World} (h : laidMetH Tryd.prog Rows.fnWider8Row.laid W) : Lib.TabIs Tryd.prog W "math/bits.deBruijn32tab" .u8 (Lib.deBruijn32tab.map (fun n : Nat => (n : Int))) :=
  Lib.tabIs_of_head (rest := _) gTab0 gTabType0 Tryd.underlying44 Tryd.underlying5 cellsE0 cellsT0 h
theorem gTab1 : Tryd.prog.globalNamed "math/bits.deBruijn64tab" = some 1 := by kernel_rfl
theorem gTabType1 : (Tryd.prog.globals[1]?).map (·.type) = some 45 := by kernel_rfl
theorem cellsT1 : Tryd.prog.cellsOf 45 = 64 := by kernel_rfl
theorem cellsE1 : Tryd.prog.cellsOf 5 = 1 := by kernel_rfl
theorem table1 {W : World} (h : laidMetH Tryd.prog Rows.fnWider8Row.laid W) : Lib.TabIs Tryd.prog W "math/bits.deBruijn64tab" .u8 (Lib.deBruijn64tab.map (fun n : Nat => (n : Int))) :=
  Lib.tabIs_of_head (rest := []) gTab1 gTabType1 Tryd.underlying45 Tryd.underlying5 cellsE1 cellsT1 (laidMet.tail h)

theorem contract (H : Type) (enc : TypeId × Value → H) (W : World) (base : Nat) (args : Array Value) (ds gs : List (DataW H)) (before : List MemPlace)
    (hval : ∀ (j : Nat) t v, Tryd.f5.params[j]? = some t → args[j]? = some v → Value.okWide Tryd.prog W .any base t v)
    (hW : DataW.Whole enc Tryd.prog Tryd.f5.params.toList Rows.fnWider8Spec.vars false W args.toList ds gs before) (hL : laidMetH Tryd.prog Rows.fnWider8Row.laid W) :
    Calls Tryd.prog 5 args W fun e W' => ∃ v, e = .returned v ∧ Rows.fnWider8Spec.post enc Tryd.prog Tryd.f5 false true false false W args v W' := by
  have hW' := hW
  obtain ⟨p, q, hA0, hV, rfl, hfz, hnd⟩ := hW
  have hA : DataW.TrodAll enc Tryd.prog W 0 (fun _ => true) true Tryd.f5.params.toList args.toList ds p := hA0
  rw [Tryd.params5] at hA hval
  obtain ⟨v0, vs0, d0, ds0, p0, q0, hargs, rfl, rfl, h0, r0⟩ := trodAll_cons hA
  obtain ⟨rfl, rfl, rfl⟩ := trodAll_nil r0
  obtain rfl : args = #[v0] := by cases args; simp_all
  obtain ⟨rfl, rfl⟩ := trodVars_none hV
  obtain ⟨a0, rfl, rfl, rfl, w0⟩ := open_int Tryd.underlying5 (hval 0 5 v0 rfl rfl) h0
  have b0 := bounds_u8 w0
  obtain ⟨x0, rfl⟩ := Int.eq_ofNat_of_zero_le b0.1
  clear hA0
  have T32 : TabAt 0 Lib.deBruijn32tab W := fun j hj => by
    have c := (table0 hL).cell gTab0 j (by simpa using hj)
    simpa [List.getD, hj] using c
  have T64 : TabAt 1 Lib.deBruijn64tab W := fun j hj => by
    have c := (table1 hL).cell gTab1 j (by simpa using hj)
    simpa [List.getD, hj] using c
  refine (walk x0 (by omega) W T32 T64).mono fun e W' ⟨he, bel⟩ => ?_
  subst he
  exact ⟨_, rfl, _, _, _, [], _, [], hW', trodAll_mk1 (shut_bool Tryd.underlying4 _), (trodAll_cons_mk (shut_int Tryd.underlying5 w0) trodAll_mk0), rfl, bel.frame _, fun h => by cases h⟩

noncomputable def laidWorld (os : Os) : World :=
  { World.holding Tryd.prog os ⟨#[], #[], []⟩ with heap := (((World.holding Tryd.prog os ⟨#[], #[], []⟩).heap.modify 0 (fun | .cells _ t frozen => .cells #[.int .u8 0, .int .u8 1, .int .u8 28, .int .u8 2, .int .u8 29, .int .u8 14, .int .u8 24, .int .u8 3, .int .u8 30, .int .u8 22, .int .u8 20, .int .u8 15, .int .u8 25, .int .u8 17, .int .u8 4, .int .u8 8, .int .u8 31, .int .u8 27, .int .u8 13, .int .u8 23, .int .u8 21, .int .u8 19, .int .u8 16, .int .u8 7, .int .u8 26, .int .u8 12, .int .u8 18, .int .u8 6, .int .u8 11, .int .u8 5, .int .u8 10, .int .u8 9] t frozen | o => o)).modify 1 (fun | .cells _ t frozen => .cells #[.int .u8 0, .int .u8 1, .int .u8 56, .int .u8 2, .int .u8 57, .int .u8 49, .int .u8 28, .int .u8 3, .int .u8 61, .int .u8 58, .int .u8 42, .int .u8 50, .int .u8 38, .int .u8 29, .int .u8 17, .int .u8 4, .int .u8 62, .int .u8 47, .int .u8 59, .int .u8 36, .int .u8 45, .int .u8 43, .int .u8 51, .int .u8 22, .int .u8 53, .int .u8 39, .int .u8 33, .int .u8 30, .int .u8 24, .int .u8 18, .int .u8 12, .int .u8 5, .int .u8 63, .int .u8 55, .int .u8 48, .int .u8 27, .int .u8 60, .int .u8 41, .int .u8 37, .int .u8 16, .int .u8 46, .int .u8 35, .int .u8 44, .int .u8 21, .int .u8 52, .int .u8 32, .int .u8 23, .int .u8 11, .int .u8 54, .int .u8 26, .int .u8 40, .int .u8 15, .int .u8 34, .int .u8 20, .int .u8 31, .int .u8 10, .int .u8 25, .int .u8 14, .int .u8 19, .int .u8 9, .int .u8 13, .int .u8 8, .int .u8 7, .int .u8 6] t frozen | o => o)) }
theorem laid_met (os : Os) : laidMet Tryd.prog Rows.fnWider8Row.laid ((laidWorld os).forCall (fun _ _ => 0) ⟨#[], #[.int .u8 0], []⟩).memory :=
  laidMet_of_run' 8 (by kernel_rfl) (by kernel_rfl)
theorem reads (os : Os) {H : Type} (enc : TypeId × Value → H) : ∃ places, DataW.whole enc Tryd.prog ((laidWorld os).forCall (fun _ _ => 0) ⟨#[], #[.int .u8 0], []⟩).memory Tryd.f5.params.toList Rows.fnWider8Spec.vars false (#[.int .u8 0] : Array Value).toList 8 = some ([.lit (.int .u8 0)], [], places) :=
  ⟨[], by kernel_rfl⟩

set_option maxRecDepth 100000 in
theorem lifted (os : Os) (started : os.Started) (H : Type) (enc : TypeId × Value → H) (F : Stop.Interp) :
    ReturnsInHanded {} Tryd.checked os 5 .any ((OpenSpec.ofChange Rows.fnWider8Spec).preRow enc Tryd.prog Tryd.f5 Rows.fnWider8Row.domain false Rows.fnWider8Row.laid) (((OpenSpec.ofChange Rows.fnWider8Spec).at F).post enc Tryd.prog Tryd.f5 false true false false) := by
  obtain ⟨places, hx⟩ := reads os enc
  refine returnsInHanded_of_row (C := Tryd.checked) (s := OpenSpec.ofChange Rows.fnWider8Spec) own started (by kernel_rfl) Tryd.func5
    (witness_row_at (enc := enc) (C := Tryd.checked) false (laidWorld os) #[.int .u8 0] rfl (by kernel_rfl) (by kernel_rfl) (by kernel_rfl)
      (OpenSpec.preRow_of_cond 8 hx (by kernel_rfl) (fun k hk => by cases hk) (by kernel_rfl) (laid_met os))) ?_
  intro W base args ds gs before hval hW _ _ _ hL _ _
  exact contract H enc W base args ds gs before hval hW hL

theorem said : Rows.FnWider8Said :=
  OpenClaim.holds_of_cond 5 Tryd.f5 rfl rfl rfl rfl rfl rfl rfl ⟨rfl, rfl, rfl, rfl, rfl⟩ rfl rfl rfl rfl rfl (by kernel_rfl) Tryd.func5 (by kernel_rfl)
    (of_decide_eq_true (by kernel_rfl)) (by unfold Func.isWrapper; first | (rw [if_pos (by decide +kernel)]; kernel_rfl) | (rw [if_neg (by decide +kernel)]; exact ⟨rfl, rfl⟩))
    (fun os started H enc _ F => by rw [OpenClaim.pre_eq_preRow]; exact lifted os started H enc F)

theorem plain (f : FuncId) (fn : Func) (hf : Tryd.pinned.checked.prog.funcNamed "lib-bitlathe/laws.FnWider8" = some f) (hfn : Tryd.pinned.checked.prog.funcs[f]? = some fn) :
    false = Tryd.pinned.checked.prog.looks [] ∧ ∀ (j : Nat) t, fn.params[j]? = some t → Tryd.pinned.checked.prog.wantsStandIn t = false := by
  obtain rfl : f = 5 := Option.some.inj ((show Tryd.prog.funcNamed "lib-bitlathe/laws.FnWider8" = some 5 by kernel_rfl).symm.trans hf) |>.symm
  obtain rfl : fn = Tryd.f5 := (Option.some.inj (Tryd.func5.symm.trans hfn)).symm
  refine ⟨by kernel_rfl, fun j t ht => ?_⟩
  rw [Tryd.params5] at ht
  have ht' : t = 5 := by simpa using Array.mem_of_getElem? ht
  obtain rfl := ht'
  exact (show Tryd.prog.wantsStandIn 5 = false by kernel_rfl)

/-- THE CARD -/
theorem proved : Rows.FnWider8CardSaid :=
  Claim7.holds_tied_plain_at .later [] _ _ _ _ said (fun _ h => by cases h) (by kernel_rfl) (fun _ h => by cases h) fnWider8_row_tie rfl ⟨rfl, rfl⟩ (by kernel_rfl) rfl plain (by kernel_rfl)
#print axioms proved
end Go.Proofs.YthknhfekfieedaaDoor.fnWider8
