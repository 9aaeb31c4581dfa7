/-
  PROVED: FnLowest: the zeros behind the lowest one bit are as many as ahead of the highest one of the reversed number; x and its negative number have just this bit in common; as many ones are in the number one less than it. Its conditions: the given row's own, and no others.
-/
import Derived.Test.YtbliimclmdigcaaDoorCards
import Derived.Test.YtbliimclmdigcaaDoorTie
import Derived.Deep.DeepHandedRow
import Derived.Lib.LaidTab
import Derived.Stop.LaidErr
import Derived.Test.YtbliimclmdigcaaDoorRows
import Derived.WalkKit
import Derived.ProofKit
import Derived.OpenShut
import Derived.Test.YtbliimclmdigcaaDoorLib
import Derived.Test.YtbliimclmdigcaaDoorMore
import Derived.Test.YtbliimclmdigcaaDoorTz
namespace Go.Proofs.YtbliimclmdigcaaDoor.fnLowest
open Go.ChangeShapes Go.WideShapes Go.ChangeAt Go.RowKit Go.Lathe

theorem own : ownKnob Tryd.prog.godebug = none := by kernel_rfl
set_option maxHeartbeats 1000000 in
theorem core (x c r l q : Nat) (w : World) (_hc : c ≤ 64)
   (c1 : Calls Tryd.prog 7 #[.int .u64 x] w fun e w' => e = .returned (.int .i64 c) ∧ w = w')
   (c2 : ∀ w, Calls Tryd.prog 16 #[.int .u64 x] w fun e w' => e = .returned (.int .u64 r) ∧ w = w')
   (c3 : ∀ w, Calls Tryd.prog 15 #[.int .u64 r] w fun e w' => e = .returned (.int .i64 c) ∧ w = w')
   (c4 : ∀ w, Calls Tryd.prog 10 #[.int .u64 q] w fun e w' => e = .returned (.int .i64 c) ∧ w = w')
   (_e1 : bits .and .u64 (x : Int) (IntKind.u64.wrap (-(x : Int))) = (l : Int))
   (_e2 : IntKind.u64.wrap ((l : Int) - 1) = (q : Int)) (_e3 : IntKind.u64.wrap ((l : Int) - 1) = (q : Int))
   (_h : ((x : Int) == 0) = true ∨ ((x : Int) == 0) = false ∧ IntKind.u64.wrap (2 ^ c) = (l : Int)) :
    Calls Tryd.prog 6 #[.int .u64 x] w fun e w' => e = .returned (.bool true) ∧ Below w.heap.size w w' := by
  have C1 := Lib.hid c1; have C2 := Lib.hid c2; have C3 := Lib.hid c3; have C4 := Lib.hid c4
  clear c1 c2 c3 c4
  rcases _h with hz | ⟨hz, hp⟩
  all_goals
    go_enter Tryd.func6, Tryd.ntmps6
    go_wp2_with (first
      | (go_at_call 7; (with_reducible refine C1.out.mono ?_); rintro e w' ⟨rfl, rfl⟩)
      | (go_at_call 16; (with_reducible refine (C2.out _).mono ?_); rintro e w' ⟨rfl, rfl⟩)
      | (go_at_call 15; (with_reducible refine (C3.out _).mono ?_); rintro e w' ⟨rfl, rfl⟩)
      | (go_at_call 10; (with_reducible refine (C4.out _).mono ?_); rintro e w' ⟨rfl, rfl⟩))
    go_ret
    first
      | exact ⟨rfl, Below.refl _ _⟩
      | exact ⟨rfl, below_drewN (Below.refl _ _) _⟩
theorem walk (x0 : Nat) (h0 : x0 < 18446744073709551616) (w : World) (T64 : TabAt 1 Lib.deBruijn64tab w) :
    Calls Tryd.prog 6 #[.int .u64 x0] w fun e w' => e = .returned (.bool true) ∧ Below w.heap.size w w' := by
  have hc : tz 64 x0 ≤ 64 := tz_le 64 x0 h0
  have c3 := i_LeadingZeros (rev 64 x0) (rev_lt 64 x0)
  rw [len_rev_tz 64 x0 h0, show (64 : Int) - ((64 - tz 64 x0 : Nat) : Int) = (tz 64 x0 : Int) by omega] at c3
  have hl : (if x0 = 0 then 0 else 2 ^ tz 64 x0) < 18446744073709551616 := by
    split
    · decide
    · exact two_pow_lt _ 64 (tz_low 64 x0 (by assumption) h0).2
  have hp := pred_u64 _ hl
  have hq : (if (if x0 = 0 then 0 else 2 ^ tz 64 x0) = 0 then 18446744073709551615 else (if x0 = 0 then 0 else 2 ^ tz 64 x0) - 1) = 2 ^ tz 64 x0 - 1 := by
    by_cases hz : x0 = 0
    · subst hz; rw [tz_zero]; rfl
    · have := Nat.two_pow_pos (tz 64 x0)
      rw [if_neg hz, if_neg (by omega)]
  rw [hq] at hp
  have lq : 2 ^ tz 64 x0 - 1 < 18446744073709551616 := by
    have := two_pow_le _ 64 hc
    rw [show (2 : Nat) ^ 64 = 18446744073709551616 from rfl] at this
    have := Nat.two_pow_pos (tz 64 x0)
    omega
  have c4 := i_OnesCount (2 ^ tz 64 x0 - 1) lq
  rw [pc_pow_pred 64 _ hc] at c4
  have hp' : IntKind.u64.wrap (((if x0 = 0 then 0 else 2 ^ tz 64 x0 : Nat) : Int) - 1) = ((2 ^ tz 64 x0 - 1 : Nat) : Int) := by
    first
      | exact hp
      | (rw [wrapw_u64]; exact hp)
  refine core x0 (tz 64 x0) _ _ _ w hc (i_TrailingZeros x0 h0 w T64) (i_Reverse x0 h0) c3 c4 (low_u64 x0 h0) hp' hp ?_
  by_cases hz : x0 = 0
  · left; simp; omega
  · right
    refine ⟨by simp; omega, ?_⟩
    rw [if_neg hz]
    exact pow_u64 _ (tz_low 64 x0 hz h0).2
theorem gTab0 : Tryd.prog.globalNamed "math/bits.deBruijn32tab" = some 0 := by kernel_rfl
theorem gTabType0 : (Tryd.prog.globals[0]?).map (·.type) = some 40 := by kernel_rfl
theorem cellsT0 : Tryd.prog.cellsOf 40 = 32 := by kernel_rfl
theorem cellsE0 : Tryd.prog.cellsOf 5 = 1 := by kernel_rfl
theorem table0 {W : World} (h : laidMetH Tryd.prog Rows.fnLowestRow.laid W) : Lib.TabIs Tryd.prog W "math/bits.deBruijn32tab" .u8 (Lib.deBruijn32tab.map (fun n : Nat => (n : Int))) :=
  Lib.tabIs_of_head (rest := _) gTab0 gTabType0 Tryd.underlying40 Tryd.underlying5 cellsE0 cellsT0 h
theorem gTab1 : Tryd.prog.globalNamed "math/bits.deBruijn64tab" = some 1 := by kernel_rfl
theorem gTabType1 : (Tryd.prog.globals[1]?).map (·.type) = some 41 := by kernel_rfl
theorem cellsT1 : Tryd.prog.cellsOf 41 = 64 := by kernel_rfl
theorem cellsE1 : Tryd.prog.cellsOf 5 = 1 := by kernel_rfl
theorem table1 {W : World} (h : laidMetH Tryd.prog Rows.fnLowestRow.laid W) : Lib.TabIs Tryd.prog W "math/bits.deBruijn64tab" .u8 (Lib.deBruijn64tab.map (fun n : Nat => (n : Int))) :=
  Lib.tabIs_of_head (rest := []) gTab1 gTabType1 Tryd.underlying41 Tryd.underlying5 cellsE1 cellsT1 (laidMet.tail h)

theorem contract (H : Type) (enc : TypeId × Value → H) (W : World) (base : Nat) (args : Array Value) (ds gs : List (DataW H)) (before : List MemPlace)
    (hval : ∀ (j : Nat) t v, Tryd.f6.params[j]? = some t → args[j]? = some v → Value.okWide Tryd.prog W .any base t v)
    (hW : DataW.Whole enc Tryd.prog Tryd.f6.params.toList Rows.fnLowestSpec.vars false W args.toList ds gs before) (hL : laidMetH Tryd.prog Rows.fnLowestRow.laid W) :
    Calls Tryd.prog 6 args W fun e W' => ∃ v, e = .returned v ∧ Rows.fnLowestSpec.post enc Tryd.prog Tryd.f6 false true false false W args v W' := by
  have hW' := hW
  obtain ⟨p, q, hA0, hV, rfl, hfz, hnd⟩ := hW
  have hA : DataW.TrodAll enc Tryd.prog W 0 (fun _ => true) true Tryd.f6.params.toList args.toList ds p := hA0
  rw [Tryd.params6] at hA hval
  obtain ⟨v0, vs0, d0, ds0, p0, q0, hargs, rfl, rfl, h0, r0⟩ := trodAll_cons hA
  obtain ⟨rfl, rfl, rfl⟩ := trodAll_nil r0
  obtain rfl : args = #[v0] := by cases args; simp_all
  obtain ⟨rfl, rfl⟩ := trodVars_none hV
  obtain ⟨a0, rfl, rfl, rfl, w0⟩ := open_int Tryd.underlying22 (hval 0 22 v0 rfl rfl) h0
  have b0 := bounds_u64 w0
  obtain ⟨x0, rfl⟩ := Int.eq_ofNat_of_zero_le b0.1
  clear hA0
  have T64 : TabAt 1 Lib.deBruijn64tab W := fun j hj => by
    have c := (table1 hL).cell gTab1 j (by simpa using hj)
    simpa [List.getD, hj] using c
  refine (walk x0 (by omega) W T64).mono fun e W' ⟨he, bel⟩ => ?_
  subst he
  exact ⟨_, rfl, _, _, _, [], _, [], hW', trodAll_mk1 (shut_bool Tryd.underlying4 _), (trodAll_cons_mk (shut_int Tryd.underlying22 w0) trodAll_mk0), rfl, bel.frame _, fun h => by cases h⟩

noncomputable def laidWorld (os : Os) : World :=
  { World.holding Tryd.prog os ⟨#[], #[], []⟩ with heap := (((World.holding Tryd.prog os ⟨#[], #[], []⟩).heap.modify 0 (fun | .cells _ t frozen => .cells #[.int .u8 0, .int .u8 1, .int .u8 28, .int .u8 2, .int .u8 29, .int .u8 14, .int .u8 24, .int .u8 3, .int .u8 30, .int .u8 22, .int .u8 20, .int .u8 15, .int .u8 25, .int .u8 17, .int .u8 4, .int .u8 8, .int .u8 31, .int .u8 27, .int .u8 13, .int .u8 23, .int .u8 21, .int .u8 19, .int .u8 16, .int .u8 7, .int .u8 26, .int .u8 12, .int .u8 18, .int .u8 6, .int .u8 11, .int .u8 5, .int .u8 10, .int .u8 9] t frozen | o => o)).modify 1 (fun | .cells _ t frozen => .cells #[.int .u8 0, .int .u8 1, .int .u8 56, .int .u8 2, .int .u8 57, .int .u8 49, .int .u8 28, .int .u8 3, .int .u8 61, .int .u8 58, .int .u8 42, .int .u8 50, .int .u8 38, .int .u8 29, .int .u8 17, .int .u8 4, .int .u8 62, .int .u8 47, .int .u8 59, .int .u8 36, .int .u8 45, .int .u8 43, .int .u8 51, .int .u8 22, .int .u8 53, .int .u8 39, .int .u8 33, .int .u8 30, .int .u8 24, .int .u8 18, .int .u8 12, .int .u8 5, .int .u8 63, .int .u8 55, .int .u8 48, .int .u8 27, .int .u8 60, .int .u8 41, .int .u8 37, .int .u8 16, .int .u8 46, .int .u8 35, .int .u8 44, .int .u8 21, .int .u8 52, .int .u8 32, .int .u8 23, .int .u8 11, .int .u8 54, .int .u8 26, .int .u8 40, .int .u8 15, .int .u8 34, .int .u8 20, .int .u8 31, .int .u8 10, .int .u8 25, .int .u8 14, .int .u8 19, .int .u8 9, .int .u8 13, .int .u8 8, .int .u8 7, .int .u8 6] t frozen | o => o)) }
theorem laid_met (os : Os) : laidMet Tryd.prog Rows.fnLowestRow.laid ((laidWorld os).forCall (fun _ _ => 0) ⟨#[], #[.int .u64 0], []⟩).memory :=
  laidMet_of_run' 8 (by kernel_rfl) (by kernel_rfl)
theorem reads (os : Os) {H : Type} (enc : TypeId × Value → H) : ∃ places, DataW.whole enc Tryd.prog ((laidWorld os).forCall (fun _ _ => 0) ⟨#[], #[.int .u64 0], []⟩).memory Tryd.f6.params.toList Rows.fnLowestSpec.vars false (#[.int .u64 0] : Array Value).toList 8 = some ([.lit (.int .u64 0)], [], places) :=
  ⟨[], by kernel_rfl⟩

set_option maxRecDepth 100000 in
theorem lifted (os : Os) (started : os.Started) (H : Type) (enc : TypeId × Value → H) (F : Stop.Interp) :
    ReturnsInHanded {} Tryd.checked os 6 .any ((OpenSpec.ofChange Rows.fnLowestSpec).preRow enc Tryd.prog Tryd.f6 Rows.fnLowestRow.domain false Rows.fnLowestRow.laid) (((OpenSpec.ofChange Rows.fnLowestSpec).at F).post enc Tryd.prog Tryd.f6 false true false false) := by
  obtain ⟨places, hx⟩ := reads os enc
  refine returnsInHanded_of_row (C := Tryd.checked) (s := OpenSpec.ofChange Rows.fnLowestSpec) own started (by kernel_rfl) Tryd.func6
    (witness_row_at (enc := enc) (C := Tryd.checked) false (laidWorld os) #[.int .u64 0] rfl (by kernel_rfl) (by kernel_rfl) (by kernel_rfl)
      (OpenSpec.preRow_of_cond 8 hx (by kernel_rfl) (fun k hk => by cases hk) (by kernel_rfl) (laid_met os))) ?_
  intro W base args ds gs before hval hW _ _ _ hL _ _
  exact contract H enc W base args ds gs before hval hW hL

theorem said : Rows.FnLowestSaid :=
  OpenClaim.holds_of_cond 6 Tryd.f6 rfl rfl rfl rfl rfl rfl rfl ⟨rfl, rfl, rfl, rfl, rfl⟩ rfl rfl rfl rfl rfl (by kernel_rfl) Tryd.func6 (by kernel_rfl)
    (of_decide_eq_true (by kernel_rfl)) (by unfold Func.isWrapper; first | (rw [if_pos (by decide +kernel)]; kernel_rfl) | (rw [if_neg (by decide +kernel)]; exact ⟨rfl, rfl⟩))
    (fun os started H enc _ F => by rw [OpenClaim.pre_eq_preRow]; exact lifted os started H enc F)

theorem plain (f : FuncId) (fn : Func) (hf : Tryd.pinned.checked.prog.funcNamed "lib-bitlathe/laws.FnLowest" = some f) (hfn : Tryd.pinned.checked.prog.funcs[f]? = some fn) :
    false = Tryd.pinned.checked.prog.looks [] ∧ ∀ (j : Nat) t, fn.params[j]? = some t → Tryd.pinned.checked.prog.wantsStandIn t = false := by
  obtain rfl : f = 6 := Option.some.inj ((show Tryd.prog.funcNamed "lib-bitlathe/laws.FnLowest" = some 6 by kernel_rfl).symm.trans hf) |>.symm
  obtain rfl : fn = Tryd.f6 := (Option.some.inj (Tryd.func6.symm.trans hfn)).symm
  refine ⟨by kernel_rfl, fun j t ht => ?_⟩
  rw [Tryd.params6] at ht
  have ht' : t = 22 := by simpa using Array.mem_of_getElem? ht
  obtain rfl := ht'
  exact (show Tryd.prog.wantsStandIn 22 = false by kernel_rfl)

/-- THE CARD -/
theorem proved : Rows.FnLowestCardSaid :=
  Claim7.holds_tied_plain_at .later [] _ _ _ _ said (fun _ h => by cases h) (by kernel_rfl) (fun _ h => by cases h) fnLowest_row_tie rfl ⟨rfl, rfl⟩ (by kernel_rfl) rfl plain (by kernel_rfl)
#print axioms proved
end Go.Proofs.YtbliimclmdigcaaDoor.fnLowest
