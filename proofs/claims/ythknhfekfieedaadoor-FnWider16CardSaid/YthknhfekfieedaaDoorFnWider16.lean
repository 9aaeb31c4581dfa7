/-
  PROVED: FnWider16: what is said of a number of 16 bits is said of the same number of more bits, as far as the width goes. Its conditions: the given row's own, and no others.
-/
import Derived.Test.YthknhfekfieedaaDoorCards
import Derived.Test.YthknhfekfieedaaDoorTie
import Derived.Deep.DeepHandedRow
import Derived.Lib.LaidTab
import Derived.Stop.LaidErr
import Derived.Test.YthknhfekfieedaaDoorRows
import Derived.WalkKit
import Derived.ProofKit
import Derived.OpenShut
import Derived.Test.YthknhfekfieedaaDoorLib
import Derived.Test.YthknhfekfieedaaDoorMore
import Derived.Test.YthknhfekfieedaaDoorTz
namespace Go.Proofs.YthknhfekfieedaaDoor.fnWider16
open Go.ChangeShapes Go.WideShapes Go.ChangeAt Go.RowKit Go.Lathe

theorem own : ownKnob Tryd.prog.godebug = none := by kernel_rfl
set_option maxHeartbeats 4000000 in
theorem core (x a l lo hi a1 a2 T16 T32 T64 R16 R32 R64 B16 B32 B64 : Nat) (w : World) (_hx : x < 65536) (_ll : l ≤ 16) (_la : a ≤ 16)
   (o16 : ∀ w, Calls Tryd.prog 10 #[.int .u16 x] w fun e w' => e = .returned (.int .i64 a) ∧ ∃ nq, w' = w.drewN nq)
   (o32 : ∀ w, Calls Tryd.prog 8 #[.int .u32 x] w fun e w' => e = .returned (.int .i64 a) ∧ ∃ nq, w' = w.drewN nq)
   (o64 : ∀ w, Calls Tryd.prog 9 #[.int .u64 x] w fun e w' => e = .returned (.int .i64 a) ∧ w = w')
   (oa : ∀ w, Calls Tryd.prog 21 #[.int .u8 lo] w fun e w' => e = .returned (.int .i64 a1) ∧ w = w')
   (ob : ∀ w, Calls Tryd.prog 21 #[.int .u8 hi] w fun e w' => e = .returned (.int .i64 a2) ∧ w = w')
   (l16 : ∀ w, Calls Tryd.prog 22 #[.int .u16 x] w fun e w' => e = .returned (.int .i64 l) ∧ w = w')
   (l32 : ∀ w, Calls Tryd.prog 11 #[.int .u32 x] w fun e w' => e = .returned (.int .i64 l) ∧ w = w')
   (l64 : ∀ w, Calls Tryd.prog 12 #[.int .u64 x] w fun e w' => e = .returned (.int .i64 l) ∧ w = w')
   (z16 : ∀ w, Calls Tryd.prog 23 #[.int .u16 x] w fun e w' => e = .returned (.int .i64 (16 - (l : Int))) ∧ w = w')
   (z32 : ∀ w, Calls Tryd.prog 13 #[.int .u32 x] w fun e w' => e = .returned (.int .i64 (32 - (l : Int))) ∧ w = w')
   (z64 : ∀ w, Calls Tryd.prog 14 #[.int .u64 x] w fun e w' => e = .returned (.int .i64 (64 - (l : Int))) ∧ w = w')
   (t16 : ∀ nq, Calls Tryd.prog 24 #[.int .u16 x] (w.drewN nq) fun e w' => e = .returned (.int .i64 T16) ∧ w.drewN nq = w')
   (t32 : ∀ nq, Calls Tryd.prog 15 #[.int .u32 x] (w.drewN nq) fun e w' => e = .returned (.int .i64 T32) ∧ w.drewN nq = w')
   (t64 : ∀ nq, Calls Tryd.prog 16 #[.int .u64 x] (w.drewN nq) fun e w' => e = .returned (.int .i64 T64) ∧ w.drewN nq = w')
   (r16 : ∀ w, Calls Tryd.prog 25 #[.int .u16 x] w fun e w' => e = .returned (.int .u16 R16) ∧ ∃ nq, w' = w.drewN nq)
   (r32 : ∀ w, Calls Tryd.prog 17 #[.int .u32 x] w fun e w' => e = .returned (.int .u32 R32) ∧ w = w')
   (r64 : ∀ w, Calls Tryd.prog 18 #[.int .u64 x] w fun e w' => e = .returned (.int .u64 R64) ∧ w = w')
   (b16 : ∀ w, Calls Tryd.prog 26 #[.int .u16 x] w fun e w' => e = .returned (.int .u16 B16) ∧ w = w')
   (b32 : ∀ w, Calls Tryd.prog 19 #[.int .u32 x] w fun e w' => e = .returned (.int .u32 B32) ∧ w = w')
   (b64 : ∀ w, Calls Tryd.prog 20 #[.int .u64 x] w fun e w' => e = .returned (.int .u64 B64) ∧ w = w')
   (_s32 : (R16 : Int) * 65536 % 4294967296 = (R32 : Int)) (_sb32 : (R16 : Int) * 65536 = (R32 : Int)) (_u32 : (B16 : Int) * 65536 % 4294967296 = (B32 : Int)) (_ub32 : (B16 : Int) * 65536 = (B32 : Int)) (_s64 : IntKind.u64.wrap ((R16 : Int) * 281474976710656) = (R64 : Int)) (_sb64 : (R16 : Int) * 281474976710656 = (R64 : Int)) (_u64 : IntKind.u64.wrap ((B16 : Int) * 281474976710656) = (B64 : Int)) (_ub64 : (B16 : Int) * 281474976710656 = (B64 : Int))
   (_lr : R16 < 65536) (_lb : B16 < 65536)
   (_e1 : (x : Int) % 256 = (lo : Int)) (_e2 : (x : Int) / 256 = (hi : Int)) (_hh : hi < 256) (_l1 : a1 ≤ 8) (_l2 : a2 ≤ 8) (_sum : a = a1 + a2)
   (_ht : (T32 = T16 ∧ T64 = T16 ∧ T16 < 16) ∨ (T16 = 16 ∧ T32 = 32 ∧ T64 = 64)) :
    Calls Tryd.prog 4 #[.int .u16 x] w fun e w' => e = .returned (.bool true) ∧ Below w.heap.size w w' := by
  have Ho16 := Lib.hid o16; have Ho32 := Lib.hid o32; have Ho64 := Lib.hid o64; have Hoa := Lib.hid oa; have Hob := Lib.hid ob; have Hl16 := Lib.hid l16; have Hl32 := Lib.hid l32; have Hl64 := Lib.hid l64; have Hz16 := Lib.hid z16; have Hz32 := Lib.hid z32; have Hz64 := Lib.hid z64; have Ht16 := Lib.hid t16; have Ht32 := Lib.hid t32; have Ht64 := Lib.hid t64; have Hr16 := Lib.hid r16; have Hr32 := Lib.hid r32; have Hr64 := Lib.hid r64; have Hb16 := Lib.hid b16; have Hb32 := Lib.hid b32; have Hb64 := Lib.hid b64
  clear o16 o32 o64 oa ob l16 l32 l64 z16 z32 z64 t16 t32 t64 r16 r32 r64 b16 b32 b64
  subst _sum
  rcases _ht with ⟨rfl, rfl, ht⟩ | ⟨rfl, rfl, rfl⟩
  all_goals
    go_enter Tryd.func4, Tryd.ntmps4
    go_wp2_with (first | (go_at_call 21; (first | (with_reducible refine (Hoa.out _).mono ?_) | (with_reducible refine (Hob.out _).mono ?_)); rintro e w' ⟨rfl, rfl⟩) | (go_at_call 10; (first | (with_reducible refine (Ho16.out _).mono ?_)); rintro e w' ⟨rfl, nq, rfl⟩) | (go_at_call 8; (first | (with_reducible refine (Ho32.out _).mono ?_)); rintro e w' ⟨rfl, nq, rfl⟩) | (go_at_call 9; (first | (with_reducible refine (Ho64.out _).mono ?_)); rintro e w' ⟨rfl, rfl⟩) | (go_at_call 22; (first | (with_reducible refine (Hl16.out _).mono ?_)); rintro e w' ⟨rfl, rfl⟩) | (go_at_call 11; (first | (with_reducible refine (Hl32.out _).mono ?_)); rintro e w' ⟨rfl, rfl⟩) | (go_at_call 12; (first | (with_reducible refine (Hl64.out _).mono ?_)); rintro e w' ⟨rfl, rfl⟩) | (go_at_call 23; (first | (with_reducible refine (Hz16.out _).mono ?_)); rintro e w' ⟨rfl, rfl⟩) | (go_at_call 13; (first | (with_reducible refine (Hz32.out _).mono ?_)); rintro e w' ⟨rfl, rfl⟩) | (go_at_call 14; (first | (with_reducible refine (Hz64.out _).mono ?_)); rintro e w' ⟨rfl, rfl⟩) | (go_at_call 24; (first | (with_reducible refine (Ht16.out _).mono ?_) | (refine (Ht16.out 0).mono ?_)); rintro e w' ⟨rfl, rfl⟩) | (go_at_call 15; (first | (with_reducible refine (Ht32.out _).mono ?_) | (refine (Ht32.out 0).mono ?_)); rintro e w' ⟨rfl, rfl⟩) | (go_at_call 16; (first | (with_reducible refine (Ht64.out _).mono ?_) | (refine (Ht64.out 0).mono ?_)); rintro e w' ⟨rfl, rfl⟩) | (go_at_call 25; (first | (with_reducible refine (Hr16.out _).mono ?_)); rintro e w' ⟨rfl, nq, rfl⟩) | (go_at_call 17; (first | (with_reducible refine (Hr32.out _).mono ?_)); rintro e w' ⟨rfl, rfl⟩) | (go_at_call 18; (first | (with_reducible refine (Hr64.out _).mono ?_)); rintro e w' ⟨rfl, rfl⟩) | (go_at_call 26; (first | (with_reducible refine (Hb16.out _).mono ?_)); rintro e w' ⟨rfl, rfl⟩) | (go_at_call 19; (first | (with_reducible refine (Hb32.out _).mono ?_)); rintro e w' ⟨rfl, rfl⟩) | (go_at_call 20; (first | (with_reducible refine (Hb64.out _).mono ?_)); rintro e w' ⟨rfl, rfl⟩))
    go_ret
    first
      | exact ⟨rfl, Below.refl _ _⟩
      | exact ⟨rfl, below_drewN (Below.refl _ _) _⟩
theorem walk (x0 : Nat) (h0 : x0 < 65536) (w : World) (T32 : TabAt 0 Lib.deBruijn32tab w) (T64 : TabAt 1 Lib.deBruijn64tab w) :
    Calls Tryd.prog 4 #[.int .u16 x0] w fun e w' => e = .returned (.bool true) ∧ Below w.heap.size w w' := by
  have h32 : x0 < 4294967296 := by omega
  have h64 : x0 < 18446744073709551616 := by omega
  have h16 := h0
  have c32 := i_OnesCount32 x0 h32
  rw [show pc 32 x0 = pc 16 x0 from pc_wider 16 16 x0 h0] at c32
  have s32 : ((rev 16 x0 : Nat) : Int) * 65536 = ((rev 32 x0 : Nat) : Int) := by rw [show rev 32 x0 = rev 16 x0 * 2 ^ 16 from rev_wide 16 16 x0 h0]; rfl
  have lr32 : rev 32 x0 < 4294967296 := rev_lt 32 x0
  have q32 : ((rev 16 x0 : Nat) : Int) * 65536 % 4294967296 = ((rev 32 x0 : Nat) : Int) := by
    skip
    rw [s32]; omega
  have v32 : ((revB 16 x0 : Nat) : Int) * 65536 = ((revB 32 x0 : Nat) : Int) := by rw [show revB 32 x0 = revB 16 x0 * 2 ^ 16 from revB_wide 2 2 x0 h0]; rfl
  have lb32 : revB 32 x0 < 4294967296 := revB_lt 32 x0
  have y32 : ((revB 16 x0 : Nat) : Int) * 65536 % 4294967296 = ((revB 32 x0 : Nat) : Int) := by
    skip
    rw [v32]; omega
  have c64 := i_OnesCount64 x0 h64
  rw [show pc 64 x0 = pc 16 x0 from pc_wider 16 48 x0 h0] at c64
  have s64 : ((rev 16 x0 : Nat) : Int) * 281474976710656 = ((rev 64 x0 : Nat) : Int) := by rw [show rev 64 x0 = rev 16 x0 * 2 ^ 48 from rev_wide 16 48 x0 h0]; rfl
  have lr64 : rev 64 x0 < 18446744073709551616 := rev_lt 64 x0
  have q64 : IntKind.u64.wrap (((rev 16 x0 : Nat) : Int) * 281474976710656) = ((rev 64 x0 : Nat) : Int) := by
    rw [wrapw_u64]
    rw [s64]; omega
  have v64 : ((revB 16 x0 : Nat) : Int) * 281474976710656 = ((revB 64 x0 : Nat) : Int) := by rw [show revB 64 x0 = revB 16 x0 * 2 ^ 48 from revB_wide 2 6 x0 h0]; rfl
  have lb64 : revB 64 x0 < 18446744073709551616 := revB_lt 64 x0
  have y64 : IntKind.u64.wrap (((revB 16 x0 : Nat) : Int) * 281474976710656) = ((revB 64 x0 : Nat) : Int) := by
    rw [wrapw_u64]
    rw [v64]; omega
  refine core x0 (pc 16 x0) (len x0) _ _ _ _ _ _ _ _ _ _ _ _ _ w h0 (len_le 16 x0 h0) (pc_le 16 x0) (i_OnesCount16 x0 h16) c32 c64 (i_OnesCount8 (x0 % 256) (by omega)) (i_OnesCount8 (x0 / 256) (by omega)) (i_Len16 x0 h16) (i_Len32 x0 h32) (i_Len64 x0 h64) (i_LeadingZeros16 x0 h16) (i_LeadingZeros32 x0 h32) (i_LeadingZeros64 x0 h64) (fun nq => i_TrailingZeros16 x0 h16 (w.drewN nq) T32) (fun nq => i_TrailingZeros32 x0 h32 (w.drewN nq) T32) (fun nq => i_TrailingZeros64 x0 h64 (w.drewN nq) T64) (i_Reverse16 x0 h16) (i_Reverse32 x0 h32) (i_Reverse64 x0 h64) (i_ReverseBytes16 x0 h16) (i_ReverseBytes32 x0 h32) (i_ReverseBytes64 x0 h64) q32 s32 y32 v32 q64 s64 y64 v64 (rev_lt 16 x0) (revB_lt 16 x0) (by simp) (by simp) (by omega) (pc_le 8 _) (pc_le 8 _) (by have h := pc_add 8 8 x0; have g := pc_mod 8 x0; rw [show (2 : Nat) ^ 8 = 256 from rfl] at h g; simp only [Nat.reduceAdd] at h; omega) ?_
  by_cases hz : x0 = 0
  · right; rw [hz]; exact ⟨tz_zero 16, tz_zero 32, tz_zero 64⟩
  · left
    have ht := lowAt_tz 16 x0 hz h0
    exact ⟨tz_eq 32 x0 _ h32 ht, tz_eq 64 x0 _ h64 ht, lowAt_lt 16 x0 _ h0 ht⟩
theorem gTab0 : Tryd.prog.globalNamed "math/bits.deBruijn32tab" = some 0 := by kernel_rfl
theorem gTabType0 : (Tryd.prog.globals[0]?).map (·.type) = some 44 := by kernel_rfl
theorem cellsT0 : Tryd.prog.cellsOf 44 = 32 := by kernel_rfl
theorem cellsE0 : Tryd.prog.cellsOf 5 = 1 := by kernel_rfl
theorem table0 {W : World} (h : laidMetH Tryd.prog Rows.fnWider16Row.laid W) : Lib.TabIs Tryd.prog W "math/bits.deBruijn32tab" .u8 (Lib.deBruijn32tab.map (fun n : Nat => (n : Int))) :=
  Lib.tabIs_of_head (rest := _) gTab0 gTabType0 Tryd.underlying44 Tryd.underlying5 cellsE0 cellsT0 h
theorem gTab1 : Tryd.prog.globalNamed "math/bits.deBruijn64tab" = some 1 := by kernel_rfl
theorem gTabType1 : (Tryd.prog.globals[1]?).map (·.type) = some 45 := by kernel_rfl
theorem cellsT1 : Tryd.prog.cellsOf 45 = 64 := by kernel_rfl
theorem cellsE1 : Tryd.prog.cellsOf 5 = 1 := by kernel_rfl
theorem table1 {W : World} (h : laidMetH Tryd.prog Rows.fnWider16Row.laid W) : Lib.TabIs Tryd.prog W "math/bits.deBruijn64tab" .u8 (Lib.deBruijn64tab.map (fun n : Nat => (n : Int))) :=
  Lib.tabIs_of_head (rest := []) gTab1 gTabType1 Tryd.underlying45 Tryd.underlying5 cellsE1 cellsT1 (laidMet.tail h)

theorem contract (H : Type) (enc : TypeId × Value → H) (W : World) (base : Nat) (args : Array Value) (ds gs : List (DataW H)) (before : List MemPlace)
    (hval : ∀ (j : Nat) t v, Tryd.f4.params[j]? = some t → args[j]? = some v → Value.okWide Tryd.prog W .any base t v)
    (hW : DataW.Whole enc Tryd.prog Tryd.f4.params.toList Rows.fnWider16Spec.vars false W args.toList ds gs before) (hL : laidMetH Tryd.prog Rows.fnWider16Row.laid W) :
    Calls Tryd.prog 4 args W fun e W' => ∃ v, e = .returned v ∧ Rows.fnWider16Spec.post enc Tryd.prog Tryd.f4 false true false false W args v W' := by
  have hW' := hW
  obtain ⟨p, q, hA0, hV, rfl, hfz, hnd⟩ := hW
  have hA : DataW.TrodAll enc Tryd.prog W 0 (fun _ => true) true Tryd.f4.params.toList args.toList ds p := hA0
  rw [Tryd.params4] at hA hval
  obtain ⟨v0, vs0, d0, ds0, p0, q0, hargs, rfl, rfl, h0, r0⟩ := trodAll_cons hA
  obtain ⟨rfl, rfl, rfl⟩ := trodAll_nil r0
  obtain rfl : args = #[v0] := by cases args; simp_all
  obtain ⟨rfl, rfl⟩ := trodVars_none hV
  obtain ⟨a0, rfl, rfl, rfl, w0⟩ := open_int Tryd.underlying27 (hval 0 27 v0 rfl rfl) h0
  have b0 := bounds_u16 w0
  obtain ⟨x0, rfl⟩ := Int.eq_ofNat_of_zero_le b0.1
  clear hA0
  have T32 : TabAt 0 Lib.deBruijn32tab W := fun j hj => by
    have c := (table0 hL).cell gTab0 j (by simpa using hj)
    simpa [List.getD, hj] using c
  have T64 : TabAt 1 Lib.deBruijn64tab W := fun j hj => by
    have c := (table1 hL).cell gTab1 j (by simpa using hj)
    simpa [List.getD, hj] using c
  refine (walk x0 (by omega) W T32 T64).mono fun e W' ⟨he, bel⟩ => ?_
  subst he
  exact ⟨_, rfl, _, _, _, [], _, [], hW', trodAll_mk1 (shut_bool Tryd.underlying4 _), (trodAll_cons_mk (shut_int Tryd.underlying27 w0) trodAll_mk0), rfl, bel.frame _, fun h => by cases h⟩

noncomputable def laidWorld (os : Os) : World :=
  { World.holding Tryd.prog os ⟨#[], #[], []⟩ with heap := (((World.holding Tryd.prog os ⟨#[], #[], []⟩).heap.modify 0 (fun | .cells _ t frozen => .cells #[.int .u8 0, .int .u8 1, .int .u8 28, .int .u8 2, .int .u8 29, .int .u8 14, .int .u8 24, .int .u8 3, .int .u8 30, .int .u8 22, .int .u8 20, .int .u8 15, .int .u8 25, .int .u8 17, .int .u8 4, .int .u8 8, .int .u8 31, .int .u8 27, .int .u8 13, .int .u8 23, .int .u8 21, .int .u8 19, .int .u8 16, .int .u8 7, .int .u8 26, .int .u8 12, .int .u8 18, .int .u8 6, .int .u8 11, .int .u8 5, .int .u8 10, .int .u8 9] t frozen | o => o)).modify 1 (fun | .cells _ t frozen => .cells #[.int .u8 0, .int .u8 1, .int .u8 56, .int .u8 2, .int .u8 57, .int .u8 49, .int .u8 28, .int .u8 3, .int .u8 61, .int .u8 58, .int .u8 42, .int .u8 50, .int .u8 38, .int .u8 29, .int .u8 17, .int .u8 4, .int .u8 62, .int .u8 47, .int .u8 59, .int .u8 36, .int .u8 45, .int .u8 43, .int .u8 51, .int .u8 22, .int .u8 53, .int .u8 39, .int .u8 33, .int .u8 30, .int .u8 24, .int .u8 18, .int .u8 12, .int .u8 5, .int .u8 63, .int .u8 55, .int .u8 48, .int .u8 27, .int .u8 60, .int .u8 41, .int .u8 37, .int .u8 16, .int .u8 46, .int .u8 35, .int .u8 44, .int .u8 21, .int .u8 52, .int .u8 32, .int .u8 23, .int .u8 11, .int .u8 54, .int .u8 26, .int .u8 40, .int .u8 15, .int .u8 34, .int .u8 20, .int .u8 31, .int .u8 10, .int .u8 25, .int .u8 14, .int .u8 19, .int .u8 9, .int .u8 13, .int .u8 8, .int .u8 7, .int .u8 6] t frozen | o => o)) }
theorem laid_met (os : Os) : laidMet Tryd.prog Rows.fnWider16Row.laid ((laidWorld os).forCall (fun _ _ => 0) ⟨#[], #[.int .u16 0], []⟩).memory :=
  laidMet_of_run' 8 (by kernel_rfl) (by kernel_rfl)
theorem reads (os : Os) {H : Type} (enc : TypeId × Value → H) : ∃ places, DataW.whole enc Tryd.prog ((laidWorld os).forCall (fun _ _ => 0) ⟨#[], #[.int .u16 0], []⟩).memory Tryd.f4.params.toList Rows.fnWider16Spec.vars false (#[.int .u16 0] : Array Value).toList 8 = some ([.lit (.int .u16 0)], [], places) :=
  ⟨[], by kernel_rfl⟩

set_option maxRecDepth 100000 in
theorem lifted (os : Os) (started : os.Started) (H : Type) (enc : TypeId × Value → H) (F : Stop.Interp) :
    ReturnsInHanded {} Tryd.checked os 4 .any ((OpenSpec.ofChange Rows.fnWider16Spec).preRow enc Tryd.prog Tryd.f4 Rows.fnWider16Row.domain false Rows.fnWider16Row.laid) (((OpenSpec.ofChange Rows.fnWider16Spec).at F).post enc Tryd.prog Tryd.f4 false true false false) := by
  obtain ⟨places, hx⟩ := reads os enc
  refine returnsInHanded_of_row (C := Tryd.checked) (s := OpenSpec.ofChange Rows.fnWider16Spec) own started (by kernel_rfl) Tryd.func4
    (witness_row_at (enc := enc) (C := Tryd.checked) false (laidWorld os) #[.int .u16 0] rfl (by kernel_rfl) (by kernel_rfl) (by kernel_rfl)
      (OpenSpec.preRow_of_cond 8 hx (by kernel_rfl) (fun k hk => by cases hk) (by kernel_rfl) (laid_met os))) ?_
  intro W base args ds gs before hval hW _ _ _ hL _ _
  exact contract H enc W base args ds gs before hval hW hL

theorem said : Rows.FnWider16Said :=
  OpenClaim.holds_of_cond 4 Tryd.f4 rfl rfl rfl rfl rfl rfl rfl ⟨rfl, rfl, rfl, rfl, rfl⟩ rfl rfl rfl rfl rfl (by kernel_rfl) Tryd.func4 (by kernel_rfl)
    (of_decide_eq_true (by kernel_rfl)) (by unfold Func.isWrapper; first | (rw [if_pos (by decide +kernel)]; kernel_rfl) | (rw [if_neg (by decide +kernel)]; exact ⟨rfl, rfl⟩))
    (fun os started H enc _ F => by rw [OpenClaim.pre_eq_preRow]; exact lifted os started H enc F)

theorem plain (f : FuncId) (fn : Func) (hf : Tryd.pinned.checked.prog.funcNamed "lib-bitlathe/laws.FnWider16" = some f) (hfn : Tryd.pinned.checked.prog.funcs[f]? = some fn) :
    false = Tryd.pinned.checked.prog.looks [] ∧ ∀ (j : Nat) t, fn.params[j]? = some t → Tryd.pinned.checked.prog.wantsStandIn t = false := by
  obtain rfl : f = 4 := Option.some.inj ((show Tryd.prog.funcNamed "lib-bitlathe/laws.FnWider16" = some 4 by kernel_rfl).symm.trans hf) |>.symm
  obtain rfl : fn = Tryd.f4 := (Option.some.inj (Tryd.func4.symm.trans hfn)).symm
  refine ⟨by kernel_rfl, fun j t ht => ?_⟩
  rw [Tryd.params4] at ht
  have ht' : t = 27 := by simpa using Array.mem_of_getElem? ht
  obtain rfl := ht'
  exact (show Tryd.prog.wantsStandIn 27 = false by kernel_rfl)

/-- THE CARD -/
theorem proved : Rows.FnWider16CardSaid :=
  Claim7.holds_tied_plain_at .later [] _ _ _ _ said (fun _ h => by cases h) (by kernel_rfl) (fun _ h => by cases h) fnWider16_row_tie rfl ⟨rfl, rfl⟩ (by kernel_rfl) rfl plain (by kernel_rfl)
#print axioms proved
end Go.Proofs.YthknhfekfieedaaDoor.fnWider16
