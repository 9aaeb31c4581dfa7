/-
  PROVED: FnPowers: x has one bit that is one exactly if its length is one more than its zeros behind; the length of x - 1 is the least k for which 2 to the power of k is at least x. Its conditions: the given row's own, and no others.
-/
import Derived.Test.YtbliimclmdigcaaDoorCards
import Derived.Test.YtbliimclmdigcaaDoorTie
import Derived.Deep.DeepHandedRow
import Derived.Lib.LaidTab
import Derived.Stop.LaidErr
import Derived.Test.YtbliimclmdigcaaDoorRows
import Derived.WalkKit
import Derived.ProofKit
import Derived.OpenShut
import Derived.Test.YtbliimclmdigcaaDoorLib
import Derived.Test.YtbliimclmdigcaaDoorMore
import Derived.Test.YtbliimclmdigcaaDoorTz
import Derived.Test.YtbliimclmdigcaaDoorSpecB
namespace Go.Proofs.YtbliimclmdigcaaDoor.fnPowers
open Go.ChangeShapes Go.WideShapes Go.ChangeAt Go.RowKit Go.Lathe

theorem own : ownKnob Tryd.prog.godebug = none := by kernel_rfl
set_option maxHeartbeats 1000000 in
theorem core (x a k n c p q : Nat) (w : World) (_hx : x < 18446744073709551616) (_h1 : 1 ≤ x) (_hk : k ≤ 64) (_hn : n ≤ 64) (_hn1 : 1 ≤ n) (_t0 : ((x : Int) == 0) = false)
   (c1 : ∀ w, Calls Tryd.prog 10 #[.int .u64 x] w fun e w' => e = .returned (.int .i64 a) ∧ w = w')
   (c2 : ∀ w, Calls Tryd.prog 11 #[.int .u64 ((x : Int) - 1)] w fun e w' => e = .returned (.int .i64 k) ∧ w = w')
   (c3 : ∀ w, Calls Tryd.prog 11 #[.int .u64 x] w fun e w' => e = .returned (.int .i64 n) ∧ w = w')
   (c4 : ∀ nq, Calls Tryd.prog 7 #[.int .u64 x] (w.drewN nq) fun e w' => e = .returned (.int .i64 c) ∧ w.drewN nq = w')
   (_e1 : IntKind.u64.wrap (2 ^ k) = (p : Int)) (_e2 : 1 ≤ k → IntKind.u64.wrap (2 ^ (k - 1)) = (q : Int))
   (_h : (((a : Int) == 1) = true ∧ ((n : Int) - 1 == (c : Int)) = true ∧ ((x : Int) == (p : Int)) = true ∧ ((k : Int) == 64) = false ∧ x ≤ p ∧ ((k : Int) == 0) = true) ∨
      (((a : Int) == 1) = true ∧ ((n : Int) - 1 == (c : Int)) = true ∧ ((x : Int) == (p : Int)) = true ∧ ((k : Int) == 64) = false ∧ x ≤ p ∧ ((k : Int) == 0) = false ∧ 1 ≤ k ∧ q < x) ∨
      (((a : Int) == 1) = false ∧ ((n : Int) - 1 == (c : Int)) = false ∧ ((x : Int) == (p : Int)) = false ∧ ((k : Int) == 64) = false ∧ x ≤ p ∧ ((k : Int) == 0) = false ∧ 1 ≤ k ∧ q < x) ∨
      (((a : Int) == 1) = false ∧ ((n : Int) - 1 == (c : Int)) = false ∧ ((x : Int) == (p : Int)) = false ∧ ((k : Int) == 64) = true ∧ ((k : Int) == 0) = false ∧ 1 ≤ k ∧ q < x)) :
    Calls Tryd.prog 4 #[.int .u64 x] w fun e w' => e = .returned (.bool true) ∧ Below w.heap.size w w' := by
  have C1 := Lib.hid c1; have C2 := Lib.hid c2; have C3 := Lib.hid c3; have C4 := Lib.hid c4
  clear c1 c2 c3 c4
  rcases _h with ⟨t1, t2, t3, t4, t5, t6⟩ | ⟨t1, t2, t3, t4, t5, t6, t7, t8⟩ | ⟨t1, t2, t3, t4, t5, t6, t7, t8⟩ | ⟨t1, t2, t3, t4, t6, t7, t8⟩
  · clear _e2
    go_enter Tryd.func4, Tryd.ntmps4
    go_wp2_with (first
      | (go_at_call 10; (with_reducible refine (C1.out _).mono ?_); rintro e w' ⟨rfl, rfl⟩)
      | (go_at_call 11; (first | (with_reducible refine (C2.out _).mono ?_) | (with_reducible refine (C3.out _).mono ?_)); rintro e w' ⟨rfl, rfl⟩)
      | (go_at_call 7; (first | (with_reducible refine (C4.out _).mono ?_) | (refine (C4.out 0).mono ?_)); rintro e w' ⟨rfl, rfl⟩)
      | (go_at_call 9; (with_reducible refine (s_Width _).mono ?_); rintro e w' ⟨rfl, rfl⟩))
    go_ret
    first
      | exact ⟨rfl, Below.refl _ _⟩
      | exact ⟨rfl, below_drewN (Below.refl _ _) _⟩
  all_goals
    have e2 := _e2 t7
    clear _e2
    go_enter Tryd.func4, Tryd.ntmps4
    go_wp2_with (first
      | (go_at_call 10; (with_reducible refine (C1.out _).mono ?_); rintro e w' ⟨rfl, rfl⟩)
      | (go_at_call 11; (first | (with_reducible refine (C2.out _).mono ?_) | (with_reducible refine (C3.out _).mono ?_)); rintro e w' ⟨rfl, rfl⟩)
      | (go_at_call 7; (first | (with_reducible refine (C4.out _).mono ?_) | (refine (C4.out 0).mono ?_)); rintro e w' ⟨rfl, rfl⟩)
      | (go_at_call 9; (with_reducible refine (s_Width _).mono ?_); rintro e w' ⟨rfl, rfl⟩))
    go_ret
    first
      | exact ⟨rfl, Below.refl _ _⟩
      | exact ⟨rfl, below_drewN (Below.refl _ _) _⟩
theorem core_zero (x a n : Nat) (w : World) (_t0 : ((x : Int) == 0) = true) (_t1 : ((a : Int) == 1) = false) (_hn : 0 < n)
   (c1 : ∀ w, Calls Tryd.prog 10 #[.int .u64 x] w fun e w' => e = .returned (.int .i64 a) ∧ w = w')
   (c2 : ∀ w, Calls Tryd.prog 11 #[.int .u64 (bits .xor .u64 IntKind.u64.max x)] w fun e w' => e = .returned (.int .i64 n) ∧ w = w') :
    Calls Tryd.prog 4 #[.int .u64 x] w fun e w' => e = .returned (.bool true) ∧ Below w.heap.size w w' := by
  have C1 := Lib.hid c1; have C2 := Lib.hid c2
  clear c1 c2
  go_enter Tryd.func4, Tryd.ntmps4
  go_wp2_with (first
    | (go_at_call 10; (with_reducible refine (C1.out _).mono ?_); rintro e w' ⟨rfl, rfl⟩)
    | (go_at_call 11; (with_reducible refine (C2.out _).mono ?_); rintro e w' ⟨rfl, rfl⟩))
  go_ret
  first
    | exact ⟨rfl, Below.refl _ _⟩
    | exact ⟨rfl, below_drewN (Below.refl _ _) _⟩
theorem walk (x0 : Nat) (h0 : x0 < 18446744073709551616) (w : World) (T64 : TabAt 1 Lib.deBruijn64tab w) :
    Calls Tryd.prog 4 #[.int .u64 x0] w fun e w' => e = .returned (.bool true) ∧ Below w.heap.size w w' := by
  by_cases hz : x0 = 0
  · have f6 : pc 64 x0 = 0 := by rw [hz]; exact pc_zero _
    have c2 := i_Len (18446744073709551615 - x0) (by omega)
    rw [← not_u64 x0 h0] at c2
    have : len (18446744073709551615 - x0) = 64 := by rw [hz]; exact len_eq 18446744073709551615 64 (lenIs_ones 64)
    exact core_zero x0 _ _ w (by simp; omega) (by simp; omega) (by omega) (i_OnesCount x0 h0) c2
  · obtain ⟨a1, a2, a3, a4, a5, a6, a7, a8⟩ := powers 64 x0 h0 hz
    have ln : len x0 ≤ 64 := len_le 64 x0 h0
    have c2 := i_Len (x0 - 1) (by omega)
    rw [show ((x0 - 1 : Nat) : Int) = (x0 : Int) - 1 by omega] at c2
    have c4 : ∀ nq, Calls Tryd.prog 7 #[.int .u64 x0] (w.drewN nq) fun e w' => e = .returned (.int .i64 (tz 64 x0)) ∧ w.drewN nq = w' := fun nq => i_TrailingZeros x0 h0 (w.drewN nq) T64
    refine core x0 (pc 64 x0) (len (x0 - 1)) (len x0) (tz 64 x0) _ _ w h0 (by omega) a5 ln a6 (by simp; omega) (i_OnesCount x0 h0) c2 (i_Len x0 h0) c4 (pk_u64 _ a5) (fun _ => pk1_u64 _ a5) ?_
    by_cases hk : len (x0 - 1) = 64
    · have h1 := a8 hk
      have h2 : ¬ len x0 - 1 = tz 64 x0 := fun e => h1 (a1.2 e)
      right; right; right
      rw [if_pos hk]
      refine ⟨by simp; omega, by simp; omega, by simp; omega, by simp; omega, by simp; omega, by omega, ?_⟩
      rcases a4 with a4 | a4
      · omega
      · exact a4
    · rw [if_neg hk]
      by_cases hp : pc 64 x0 = 1
      · have h2 := a1.1 hp
        have h3 := a2.1 hp
        by_cases hk0 : len (x0 - 1) = 0
        · left
          refine ⟨by simp; omega, by simp; omega, by simp only [beq_iff_eq]; omega, by simp; omega, by omega, by simp; omega⟩
        · right; left
          refine ⟨by simp; omega, by simp; omega, by simp only [beq_iff_eq]; omega, by simp; omega, by omega, by simp; omega, by omega, ?_⟩
          rcases a4 with a4 | a4
          · omega
          · omega
      · have h2 : ¬ len x0 - 1 = tz 64 x0 := fun e => hp (a1.2 e)
        have h3 : ¬ x0 = 2 ^ len (x0 - 1) := fun e => hp (a2.2 e)
        have hk0 : len (x0 - 1) ≠ 0 := fun e => hp (a7 e)
        right; right; left
        refine ⟨by simp; omega, by simp; omega, by rw [beq_eq_false_iff_ne]; omega, by simp; omega, by omega, by simp; omega, by omega, ?_⟩
        rcases a4 with a4 | a4
        · omega
        · omega
theorem gTab0 : Tryd.prog.globalNamed "math/bits.deBruijn32tab" = some 0 := by kernel_rfl
theorem gTabType0 : (Tryd.prog.globals[0]?).map (·.type) = some 40 := by kernel_rfl
theorem cellsT0 : Tryd.prog.cellsOf 40 = 32 := by kernel_rfl
theorem cellsE0 : Tryd.prog.cellsOf 5 = 1 := by kernel_rfl
theorem table0 {W : World} (h : laidMetH Tryd.prog Rows.fnPowersRow.laid W) : Lib.TabIs Tryd.prog W "math/bits.deBruijn32tab" .u8 (Lib.deBruijn32tab.map (fun n : Nat => (n : Int))) :=
  Lib.tabIs_of_head (rest := _) gTab0 gTabType0 Tryd.underlying40 Tryd.underlying5 cellsE0 cellsT0 h
theorem gTab1 : Tryd.prog.globalNamed "math/bits.deBruijn64tab" = some 1 := by kernel_rfl
theorem gTabType1 : (Tryd.prog.globals[1]?).map (·.type) = some 41 := by kernel_rfl
theorem cellsT1 : Tryd.prog.cellsOf 41 = 64 := by kernel_rfl
theorem cellsE1 : Tryd.prog.cellsOf 5 = 1 := by kernel_rfl
theorem table1 {W : World} (h : laidMetH Tryd.prog Rows.fnPowersRow.laid W) : Lib.TabIs Tryd.prog W "math/bits.deBruijn64tab" .u8 (Lib.deBruijn64tab.map (fun n : Nat => (n : Int))) :=
  Lib.tabIs_of_head (rest := []) gTab1 gTabType1 Tryd.underlying41 Tryd.underlying5 cellsE1 cellsT1 (laidMet.tail h)

theorem contract (H : Type) (enc : TypeId × Value → H) (W : World) (base : Nat) (args : Array Value) (ds gs : List (DataW H)) (before : List MemPlace)
    (hval : ∀ (j : Nat) t v, Tryd.f4.params[j]? = some t → args[j]? = some v → Value.okWide Tryd.prog W .any base t v)
    (hW : DataW.Whole enc Tryd.prog Tryd.f4.params.toList Rows.fnPowersSpec.vars false W args.toList ds gs before) (hL : laidMetH Tryd.prog Rows.fnPowersRow.laid W) :
    Calls Tryd.prog 4 args W fun e W' => ∃ v, e = .returned v ∧ Rows.fnPowersSpec.post enc Tryd.prog Tryd.f4 false true false false W args v W' := by
  have hW' := hW
  obtain ⟨p, q, hA0, hV, rfl, hfz, hnd⟩ := hW
  have hA : DataW.TrodAll enc Tryd.prog W 0 (fun _ => true) true Tryd.f4.params.toList args.toList ds p := hA0
  rw [Tryd.params4] at hA hval
  obtain ⟨v0, vs0, d0, ds0, p0, q0, hargs, rfl, rfl, h0, r0⟩ := trodAll_cons hA
  obtain ⟨rfl, rfl, rfl⟩ := trodAll_nil r0
  obtain rfl : args = #[v0] := by cases args; simp_all
  obtain ⟨rfl, rfl⟩ := trodVars_none hV
  obtain ⟨a0, rfl, rfl, rfl, w0⟩ := open_int Tryd.underlying22 (hval 0 22 v0 rfl rfl) h0
  have b0 := bounds_u64 w0
  obtain ⟨x0, rfl⟩ := Int.eq_ofNat_of_zero_le b0.1
  clear hA0
  have T64 : TabAt 1 Lib.deBruijn64tab W := fun j hj => by
    have c := (table1 hL).cell gTab1 j (by simpa using hj)
    simpa [List.getD, hj] using c
  refine (walk x0 (by omega) W T64).mono fun e W' ⟨he, bel⟩ => ?_
  subst he
  exact ⟨_, rfl, _, _, _, [], _, [], hW', trodAll_mk1 (shut_bool Tryd.underlying4 _), (trodAll_cons_mk (shut_int Tryd.underlying22 w0) trodAll_mk0), rfl, bel.frame _, fun h => by cases h⟩

noncomputable def laidWorld (os : Os) : World :=
  { World.holding Tryd.prog os ⟨#[], #[], []⟩ with heap := (((World.holding Tryd.prog os ⟨#[], #[], []⟩).heap.modify 0 (fun | .cells _ t frozen => .cells #[.int .u8 0, .int .u8 1, .int .u8 28, .int .u8 2, .int .u8 29, .int .u8 14, .int .u8 24, .int .u8 3, .int .u8 30, .int .u8 22, .int .u8 20, .int .u8 15, .int .u8 25, .int .u8 17, .int .u8 4, .int .u8 8, .int .u8 31, .int .u8 27, .int .u8 13, .int .u8 23, .int .u8 21, .int .u8 19, .int .u8 16, .int .u8 7, .int .u8 26, .int .u8 12, .int .u8 18, .int .u8 6, .int .u8 11, .int .u8 5, .int .u8 10, .int .u8 9] t frozen | o => o)).modify 1 (fun | .cells _ t frozen => .cells #[.int .u8 0, .int .u8 1, .int .u8 56, .int .u8 2, .int .u8 57, .int .u8 49, .int .u8 28, .int .u8 3, .int .u8 61, .int .u8 58, .int .u8 42, .int .u8 50, .int .u8 38, .int .u8 29, .int .u8 17, .int .u8 4, .int .u8 62, .int .u8 47, .int .u8 59, .int .u8 36, .int .u8 45, .int .u8 43, .int .u8 51, .int .u8 22, .int .u8 53, .int .u8 39, .int .u8 33, .int .u8 30, .int .u8 24, .int .u8 18, .int .u8 12, .int .u8 5, .int .u8 63, .int .u8 55, .int .u8 48, .int .u8 27, .int .u8 60, .int .u8 41, .int .u8 37, .int .u8 16, .int .u8 46, .int .u8 35, .int .u8 44, .int .u8 21, .int .u8 52, .int .u8 32, .int .u8 23, .int .u8 11, .int .u8 54, .int .u8 26, .int .u8 40, .int .u8 15, .int .u8 34, .int .u8 20, .int .u8 31, .int .u8 10, .int .u8 25, .int .u8 14, .int .u8 19, .int .u8 9, .int .u8 13, .int .u8 8, .int .u8 7, .int .u8 6] t frozen | o => o)) }
theorem laid_met (os : Os) : laidMet Tryd.prog Rows.fnPowersRow.laid ((laidWorld os).forCall (fun _ _ => 0) ⟨#[], #[.int .u64 0], []⟩).memory :=
  laidMet_of_run' 8 (by kernel_rfl) (by kernel_rfl)
theorem reads (os : Os) {H : Type} (enc : TypeId × Value → H) : ∃ places, DataW.whole enc Tryd.prog ((laidWorld os).forCall (fun _ _ => 0) ⟨#[], #[.int .u64 0], []⟩).memory Tryd.f4.params.toList Rows.fnPowersSpec.vars false (#[.int .u64 0] : Array Value).toList 8 = some ([.lit (.int .u64 0)], [], places) :=
  ⟨[], by kernel_rfl⟩

set_option maxRecDepth 100000 in
theorem lifted (os : Os) (started : os.Started) (H : Type) (enc : TypeId × Value → H) (F : Stop.Interp) :
    ReturnsInHanded {} Tryd.checked os 4 .any ((OpenSpec.ofChange Rows.fnPowersSpec).preRow enc Tryd.prog Tryd.f4 Rows.fnPowersRow.domain false Rows.fnPowersRow.laid) (((OpenSpec.ofChange Rows.fnPowersSpec).at F).post enc Tryd.prog Tryd.f4 false true false false) := by
  obtain ⟨places, hx⟩ := reads os enc
  refine returnsInHanded_of_row (C := Tryd.checked) (s := OpenSpec.ofChange Rows.fnPowersSpec) own started (by kernel_rfl) Tryd.func4
    (witness_row_at (enc := enc) (C := Tryd.checked) false (laidWorld os) #[.int .u64 0] rfl (by kernel_rfl) (by kernel_rfl) (by kernel_rfl)
      (OpenSpec.preRow_of_cond 8 hx (by kernel_rfl) (fun k hk => by cases hk) (by kernel_rfl) (laid_met os))) ?_
  intro W base args ds gs before hval hW _ _ _ hL _ _
  exact contract H enc W base args ds gs before hval hW hL

theorem said : Rows.FnPowersSaid :=
  OpenClaim.holds_of_cond 4 Tryd.f4 rfl rfl rfl rfl rfl rfl rfl ⟨rfl, rfl, rfl, rfl, rfl⟩ rfl rfl rfl rfl rfl (by kernel_rfl) Tryd.func4 (by kernel_rfl)
    (of_decide_eq_true (by kernel_rfl)) (by unfold Func.isWrapper; first | (rw [if_pos (by decide +kernel)]; kernel_rfl) | (rw [if_neg (by decide +kernel)]; exact ⟨rfl, rfl⟩))
    (fun os started H enc _ F => by rw [OpenClaim.pre_eq_preRow]; exact lifted os started H enc F)

theorem plain (f : FuncId) (fn : Func) (hf : Tryd.pinned.checked.prog.funcNamed "lib-bitlathe/laws.FnPowers" = some f) (hfn : Tryd.pinned.checked.prog.funcs[f]? = some fn) :
    false = Tryd.pinned.checked.prog.looks [] ∧ ∀ (j : Nat) t, fn.params[j]? = some t → Tryd.pinned.checked.prog.wantsStandIn t = false := by
  obtain rfl : f = 4 := Option.some.inj ((show Tryd.prog.funcNamed "lib-bitlathe/laws.FnPowers" = some 4 by kernel_rfl).symm.trans hf) |>.symm
  obtain rfl : fn = Tryd.f4 := (Option.some.inj (Tryd.func4.symm.trans hfn)).symm
  refine ⟨by kernel_rfl, fun j t ht => ?_⟩
  rw [Tryd.params4] at ht
  have ht' : t = 22 := by simpa using Array.mem_of_getElem? ht
  obtain rfl := ht'
  exact (show Tryd.prog.wantsStandIn 22 = false by kernel_rfl)

/-- THE CARD -/
theorem proved : Rows.FnPowersCardSaid :=
  Claim7.holds_tied_plain_at .later [] _ _ _ _ said (fun _ h => by cases h) (by kernel_rfl) (fun _ h => by cases h) fnPowers_row_tie rfl ⟨rfl, rfl⟩ (by kernel_rfl) rfl plain (by kernel_rfl)
#print axioms proved
end Go.Proofs.YtbliimclmdigcaaDoor.fnPowers
