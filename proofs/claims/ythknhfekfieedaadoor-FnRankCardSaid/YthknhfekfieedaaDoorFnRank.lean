/-
  PROVED: FnRank: below each place stand as many ones as the ones of the part below; and the one with a number is where so many ones are taken away from below. Its conditions: the given row's own, and no others.
-/
import Derived.Test.YthknhfekfieedaaDoorCards
import Derived.Test.YthknhfekfieedaaDoorTie
import Derived.Deep.DeepHandedRow
import Derived.Lib.LaidTab
import Derived.Stop.LaidErr
import Derived.Test.YthknhfekfieedaaDoorRows
import Derived.WalkKit
import Derived.ProofKit
import Derived.OpenShut
import Derived.Test.YthknhfekfieedaaDoorLib
import Derived.Test.YthknhfekfieedaaDoorMore
import Derived.Test.YthknhfekfieedaaDoorTz
import Derived.Test.YthknhfekfieedaaDoorSpec
import Derived.Test.YthknhfekfieedaaDoorSpecI
namespace Go.Proofs.YthknhfekfieedaaDoor.fnRank
open Go.ChangeShapes Go.WideShapes Go.ChangeAt Go.RowKit Go.Lathe

theorem own : ownKnob Tryd.prog.godebug = none := by kernel_rfl
set_option maxHeartbeats 2000000 in
theorem core (x K I W N p q bl : Nat) (w : World) (hx : x < 18446744073709551616) (_hK : K < 18446744073709551616) (_eI : (K : Int) % 65 = (I : Int)) (_hI : I ≤ 64)
   (T64 : TabAt 1 Lib.deBruijn64tab w)
   (_e1 : IntKind.u64.wrap (2 ^ I) = (p : Int)) (_e2 : IntKind.u64.wrap ((p : Int) - 1) = (q : Int)) (_e3 : bits .and .u64 (x : Int) (q : Int) = (bl : Int))
   (c1 : ∀ w, Calls Tryd.prog 9 #[.int .u64 bl] w fun e w' => e = .returned (.int .i64 W) ∧ w = w')
   (hN : N = (onesL 64 x).length) (hN64 : N ≤ 64) (hW : (onesL 64 x).countP (fun p => decide (p < I)) = W) (hWN : W ≤ N) :
    Calls Tryd.prog 6 #[.int .u64 x, .int .u64 K] w fun e w' => e = .returned (.bool true) ∧ Below w.heap.size w w' := by
  have c2 : ∀ w, Calls Tryd.prog 31 #[.int .i64 64, .int .u64 x] w fun e w' => ∃ v, e = .returned v ∧ w'.ownsRow w.heap.size 3 1 v N (placesV (onesL 64 x)) ∧ Below w.heap.size w w' :=
    fun w => (s_Ones 64 x w (by decide) (by decide) hx).mono fun e w' ⟨v, he, ho, hb⟩ => ⟨v, he, by rw [hN]; exact ho, hb⟩
  have C1 := Lib.hid c1; have C2 := Lib.hid c2; have HX := Lib.hid hx; have HT := Lib.hid T64
  have HN := Lib.hid hN; have HW := Lib.hid hW
  clear c1 c2 hx T64 hN hW
  by_cases hN0 : N = 0
  · have hW0 : W = 0 := by omega
    have hx0 : x = 0 := (pc_eq_zero 64 x HX.out).1 (by rw [← length_onesL, ← HN.out, hN0])
    subst hN0 hW0
    have hxz := Lib.hid hx0
    clear hx0
    go_enter Tryd.func6, Tryd.ntmps6
    go_wp2_with (go_at_call 31; (with_reducible refine (C2.out _).mono ?_); rintro e w1 ⟨v, rfl, ho, hb⟩; obtain ⟨a, cap, rfl⟩ := own_slice ho)
    go_loop [5, 18] (fun v i => v = .int .i64 0 ∧ i = .int .i64 0) (fun _ _ => 0)
    case atStart => exact ⟨rfl, rfl⟩
    case round =>
      obtain ⟨rfl, rfl⟩ := hrel
      go_wp2
      go_loop [10, 36] (fun v i => v = .int .u64 x ∧ i = .int .i64 0) (fun _ _ => 0)
      case atStart => exact ⟨rfl, rfl⟩
      case round =>
        obtain ⟨rfl, rfl⟩ := hrel
        have ct := i_TrailingZeros64 x HX.out w1 (HT.out.below hb (HT.out.lt (by decide)))
        rw [show tz 64 x = 64 by rw [hxz.out]; exact tz_zero 64] at ct
        have CT := Lib.hid ct
        clear ct
        go_wp2_with (first
          | (go_at_call 16; (with_reducible refine CT.out.mono ?_); rintro e w' ⟨rfl, rfl⟩)
          | (go_at_call 9; (with_reducible refine (C1.out _).mono ?_); rintro e w' ⟨rfl, rfl⟩))
        go_ret
        exact ⟨rfl, hb⟩
  · have hpos : 0 < N := by omega
    go_enter Tryd.func6, Tryd.ntmps6
    go_wp2_with (go_at_call 31; (with_reducible refine (C2.out _).mono ?_); rintro e w1 ⟨v, rfl, ho, hb⟩; obtain ⟨g, cap, rfl, hg1, hg2, hcap, hl⟩ := ownI_shape HN.out ho hpos; clear ho)
    go_loop [5, 18] (fun v i => ∃ k : Nat, k ≤ N ∧ i = .int .i64 k ∧ v = .int .i64 ((((onesL 64 x).take k).countP (fun p => decide (p < I)) : Nat) : Int)) (fun _ i => N - (intOf i).toNat)
    case atStart => exact ⟨0, Nat.zero_le _, rfl, rfl⟩
    case round =>
      obtain ⟨k, hk, rfl, rfl⟩ := hrel
      by_cases hlt : k < N
      · have hkl : k < (onesL 64 x).length := by rw [← HN.out]; exact hlt
        have hcell := hl k hkl
        have hst : ((onesL 64 x).take (k + 1)).countP (fun p => decide (p < I)) = ((onesL 64 x).take k).countP (fun p => decide (p < I)) + (if (onesL 64 x).getD k 0 < I then 1 else 0) := by
          rw [List.take_succ_eq_append_getElem hkl, List.countP_append]
          congr 1
          rw [List.countP_singleton]
          simp [List.getD, hkl]
        have hcl : ((onesL 64 x).take k).countP (fun p => decide (p < I)) ≤ 64 := by
          have h1 := List.countP_le_length (p := fun p => decide (p < I)) (l := (onesL 64 x).take k)
          have h2 : ((onesL 64 x).take k).length ≤ k := List.length_take_le _ _
          omega
        have HST := Lib.hid hst
        clear hst hkl
        generalize ((onesL 64 x).take k).countP (fun p => decide (p < I)) = c at hcl HST
        generalize (onesL 64 x).getD k 0 = pk at hcell HST
        by_cases hpi : pk < I
        · go_wp2
          go_round
          case rel => exact ⟨k + 1, by omega, by go_num, by rw [HST.out, if_pos hpi]; go_num⟩
          case measure => simp [intOf]; omega
        · go_wp2
          go_round
          case rel => exact ⟨k + 1, by omega, by go_num, by rw [HST.out, if_neg hpi]; go_num⟩
          case measure => simp [intOf]; omega
      · have hkN : k = N := by omega
        have hWv : ((onesL 64 x).take k).countP (fun p => decide (p < I)) = W := by
          rw [List.take_of_length_le (by rw [← HN.out]; omega)]; exact HW.out
        rw [hWv]
        have HKN := Lib.hid hkN
        clear hWv hkN
        go_wp2
        go_loop [10, 36] (fun v i => ∃ k Y t : Nat, k ≤ W ∧ i = .int .i64 k ∧ v = .int .u64 Y ∧ Y < 18446744073709551616 ∧ fromT x t Y ∧ (onesL t x).length = k) (fun _ i => W - (intOf i).toNat)
        case atStart => exact ⟨0, x, 0, Nat.zero_le _, rfl, rfl, HX.out, fromT_zero x, rfl⟩
        case round =>
          obtain ⟨k2, Y, t, hk2, rfl, rfl, hY, hf, ht⟩ := hrel
          have HF := Lib.hid hf
          have HTL := Lib.hid ht
          clear hf ht
          have hnz : k2 < N → Y ≠ 0 := by
            intro hlt2 h0
            have h1 := HF.out
            rw [h0] at h1
            have h2 := fromT_end 64 x t HX.out h1
            have h3 := HN.out
            rw [h2, HTL.out] at h3
            omega
          by_cases hlt2 : k2 < W
          · have hY0 := hnz (by omega)
            obtain ⟨c, hc⟩ := lowAt_exists Y hY0
            obtain ⟨f1, f2, f3, f4⟩ := fromT_low x t Y c HF.out hc
            have NX : Hid (Y &&& (Y - 1) < 18446744073709551616 ∧ fromT x (c + 1) (Y &&& (Y - 1)) ∧ (onesL (c + 1) x).length = k2 + 1) :=
              ⟨Nat.lt_of_le_of_lt Nat.and_le_left hY, f4, by rw [f3, List.length_append, HTL.out]; rfl⟩
            have e := u64_and_nat Y (Y - 1) hY (by omega)
            rw [show ((Y - 1 : Nat) : Int) = (Y : Int) - 1 by omega] at e
            have hY1 : 1 ≤ Y := by omega
            clear hc f1 f2 f3 f4 hnz hY0
            generalize Y &&& (Y - 1) = Y2 at e NX
            go_wp2
            go_round
            case rel => exact ⟨k2 + 1, Y2, c + 1, by omega, by go_num, rfl, NX.out.1, NX.out.2.1, NX.out.2.2⟩
            case measure => simp [intOf]; omega
          · have hk2W : k2 = W := by omega
            have TT : TabAt 1 Lib.deBruijn64tab w1 := HT.out.below hb (HT.out.lt (by decide))
            by_cases hWN2 : W < N
            · have hY0 := hnz (by omega)
              obtain ⟨c, hc⟩ := lowAt_exists Y hY0
              obtain ⟨f1, f2, f3, f4⟩ := fromT_low x t Y c HF.out hc
              have ht := tz_eq 64 Y c hY hc
              have hc64 := lowAt_lt 64 Y c hY hc
              obtain ⟨p1, p2⟩ := onesL_at 64 x t c hc64 f3
              have ct := i_TrailingZeros64 Y hY w1 TT
              rw [ht] at ct
              have hcell := hl W (by rw [← HN.out]; exact hWN2)
              rw [show W = (onesL t x).length by rw [HTL.out]; omega, p1] at hcell
              rw [HTL.out, hk2W] at hcell
              have CT := Lib.hid ct
              have hne : ((W : Int) == (N : Int)) = false := by simp; omega
              have hd : decide (k2 < W) = false := by simpa using hlt2
              clear ht ct p1 p2 f1 f2 f3 f4 hc hnz hY0 hk2W
              go_wp2_with (first
                | (go_at_call 16; (with_reducible refine CT.out.mono ?_); rintro e w' ⟨rfl, rfl⟩)
                | (go_at_call 9; (with_reducible refine (C1.out _).mono ?_); rintro e w' ⟨rfl, rfl⟩))
              go_ret
              exact ⟨rfl, hb⟩
            · have hWN3 : W = N := by omega
              have hYz : Y = 0 := by
                apply Classical.byContradiction
                intro hY0
                obtain ⟨c, hc⟩ := lowAt_exists Y hY0
                obtain ⟨f1, f2, f3, f4⟩ := fromT_low x t Y c HF.out hc
                obtain ⟨p1, p2⟩ := onesL_at 64 x t c (lowAt_lt 64 Y c hY hc) f3
                rw [HTL.out, ← HN.out] at p2
                omega
              have ct := i_TrailingZeros64 Y hY w1 TT
              rw [show tz 64 Y = 64 by rw [hYz]; exact tz_zero 64] at ct
              have CT := Lib.hid ct
              have hd : decide (k2 < W) = false := by simpa using hlt2
              subst hWN3
              clear ct hYz hnz hk2W
              go_wp2_with (first
                | (go_at_call 16; (with_reducible refine CT.out.mono ?_); rintro e w' ⟨rfl, rfl⟩)
                | (go_at_call 9; (with_reducible refine (C1.out _).mono ?_); rintro e w' ⟨rfl, rfl⟩))
              go_ret
              exact ⟨rfl, hb⟩
theorem walk (x0 : Nat) (h0 : x0 < 18446744073709551616) (x1 : Nat) (h1 : x1 < 18446744073709551616) (w : World) (T64 : TabAt 1 Lib.deBruijn64tab w) :
    Calls Tryd.prog 6 #[.int .u64 x0, .int .u64 x1] w fun e w' => e = .returned (.bool true) ∧ Below w.heap.size w w' := by
  have hI : x1 % 65 ≤ 64 := by omega
  obtain ⟨I, hII⟩ : ∃ I, I = x1 % 65 := ⟨_, rfl⟩
  rw [← hII] at hI
  have e1 := pk_u64 I hI
  have lp : (if I = 64 then 0 else 2 ^ I) < 18446744073709551616 := by
    split
    · decide
    · exact two_pow_lt I 64 (by omega)
  have e2 := pred_u64 _ lp
  have hq : (if (if I = 64 then 0 else 2 ^ I) = 0 then 18446744073709551615 else (if I = 64 then 0 else 2 ^ I) - 1) = 2 ^ I - 1 := by
    by_cases h : I = 64
    · subst h; rfl
    · have := Nat.two_pow_pos I
      rw [if_neg h, if_neg (by omega)]
  rw [hq] at e2
  have lq : 2 ^ I - 1 < 18446744073709551616 := by
    have h2 := two_pow_le I 64 hI
    rw [show (2 : Nat) ^ 64 = 18446744073709551616 from rfl] at h2
    have := Nat.two_pow_pos I
    omega
  have e3 := u64_and_nat x0 (2 ^ I - 1) h0 lq
  have c1 := i_OnesCount64 (x0 &&& (2 ^ I - 1)) (Nat.lt_of_le_of_lt Nat.and_le_left h0)
  have hp : pc 64 (x0 &&& (2 ^ I - 1)) = pc I x0 := by
    rw [and_ones]
    have h2 := pc_wider I (64 - I) (x0 % 2 ^ I) (Nat.mod_lt _ (Nat.two_pow_pos _))
    rw [show I + (64 - I) = 64 by omega, pc_mod] at h2
    exact h2
  rw [hp] at c1
  have hW := countP_ones I x0 64
  rw [Nat.min_eq_right hI] at hW
  have hle : pc I x0 ≤ (onesL 64 x0).length := by rw [← hW]; exact List.countP_le_length
  exact core x0 x1 I (pc I x0) _ _ _ _ w h0 h1 (by omega) hI T64 e1 e2 e3 c1 rfl (onesL_le 64 x0) hW hle
theorem gTab0 : Tryd.prog.globalNamed "math/bits.deBruijn64tab" = some 1 := by kernel_rfl
theorem gTabType0 : (Tryd.prog.globals[1]?).map (·.type) = some 45 := by kernel_rfl
theorem cellsT0 : Tryd.prog.cellsOf 45 = 64 := by kernel_rfl
theorem cellsE0 : Tryd.prog.cellsOf 5 = 1 := by kernel_rfl
theorem table0 {W : World} (h : laidMetH Tryd.prog Rows.fnRankRow.laid W) : Lib.TabIs Tryd.prog W "math/bits.deBruijn64tab" .u8 (Lib.deBruijn64tab.map (fun n : Nat => (n : Int))) :=
  Lib.tabIs_of_head (rest := []) gTab0 gTabType0 Tryd.underlying45 Tryd.underlying5 cellsE0 cellsT0 h

theorem contract (H : Type) (enc : TypeId × Value → H) (W : World) (base : Nat) (args : Array Value) (ds gs : List (DataW H)) (before : List MemPlace)
    (hval : ∀ (j : Nat) t v, Tryd.f6.params[j]? = some t → args[j]? = some v → Value.okWide Tryd.prog W .any base t v)
    (hW : DataW.Whole enc Tryd.prog Tryd.f6.params.toList Rows.fnRankSpec.vars false W args.toList ds gs before) (hL : laidMetH Tryd.prog Rows.fnRankRow.laid W) :
    Calls Tryd.prog 6 args W fun e W' => ∃ v, e = .returned v ∧ Rows.fnRankSpec.post enc Tryd.prog Tryd.f6 false true false false W args v W' := by
  have hW' := hW
  obtain ⟨p, q, hA0, hV, rfl, hfz, hnd⟩ := hW
  have hA : DataW.TrodAll enc Tryd.prog W 0 (fun _ => true) true Tryd.f6.params.toList args.toList ds p := hA0
  rw [Tryd.params6] at hA hval
  obtain ⟨v0, vs0, d0, ds0, p0, q0, hargs, rfl, rfl, h0, r0⟩ := trodAll_cons hA
  obtain ⟨v1, vs1, d1, ds1, p1, q1, rfl, rfl, rfl, h1, r1⟩ := trodAll_cons r0
  obtain ⟨rfl, rfl, rfl⟩ := trodAll_nil r1
  obtain rfl : args = #[v0, v1] := by cases args; simp_all
  obtain ⟨rfl, rfl⟩ := trodVars_none hV
  obtain ⟨a0, rfl, rfl, rfl, w0⟩ := open_int Tryd.underlying23 (hval 0 23 v0 rfl rfl) h0
  obtain ⟨a1, rfl, rfl, rfl, w1⟩ := open_int Tryd.underlying28 (hval 1 28 v1 rfl rfl) h1
  have b0 := bounds_u64 w0
  obtain ⟨x0, rfl⟩ := Int.eq_ofNat_of_zero_le b0.1
  have b1 := bounds_u64 w1
  obtain ⟨x1, rfl⟩ := Int.eq_ofNat_of_zero_le b1.1
  clear hA0
  have T64 : TabAt 1 Lib.deBruijn64tab W := fun j hj => by
    have c := (table0 hL).cell gTab0 j (by simpa using hj)
    simpa [List.getD, hj] using c
  refine (walk x0 (by omega) x1 (by omega) W T64).mono fun e W' ⟨he, bel⟩ => ?_
  subst he
  exact ⟨_, rfl, _, _, _, [], _, [], hW', trodAll_mk1 (shut_bool Tryd.underlying4 _), (trodAll_cons_mk (shut_int Tryd.underlying23 w0) (trodAll_cons_mk (shut_int Tryd.underlying28 w1) trodAll_mk0)), rfl, bel.frame _, fun h => by cases h⟩

noncomputable def laidWorld (os : Os) : World :=
  { World.holding Tryd.prog os ⟨#[], #[], []⟩ with heap := ((World.holding Tryd.prog os ⟨#[], #[], []⟩).heap.modify 1 (fun | .cells _ t frozen => .cells #[.int .u8 0, .int .u8 1, .int .u8 56, .int .u8 2, .int .u8 57, .int .u8 49, .int .u8 28, .int .u8 3, .int .u8 61, .int .u8 58, .int .u8 42, .int .u8 50, .int .u8 38, .int .u8 29, .int .u8 17, .int .u8 4, .int .u8 62, .int .u8 47, .int .u8 59, .int .u8 36, .int .u8 45, .int .u8 43, .int .u8 51, .int .u8 22, .int .u8 53, .int .u8 39, .int .u8 33, .int .u8 30, .int .u8 24, .int .u8 18, .int .u8 12, .int .u8 5, .int .u8 63, .int .u8 55, .int .u8 48, .int .u8 27, .int .u8 60, .int .u8 41, .int .u8 37, .int .u8 16, .int .u8 46, .int .u8 35, .int .u8 44, .int .u8 21, .int .u8 52, .int .u8 32, .int .u8 23, .int .u8 11, .int .u8 54, .int .u8 26, .int .u8 40, .int .u8 15, .int .u8 34, .int .u8 20, .int .u8 31, .int .u8 10, .int .u8 25, .int .u8 14, .int .u8 19, .int .u8 9, .int .u8 13, .int .u8 8, .int .u8 7, .int .u8 6] t frozen | o => o)) }
theorem laid_met (os : Os) : laidMet Tryd.prog Rows.fnRankRow.laid ((laidWorld os).forCall (fun _ _ => 0) ⟨#[], #[.int .u64 0, .int .u64 0], []⟩).memory :=
  laidMet_of_run' 8 (by kernel_rfl) (by kernel_rfl)
theorem reads (os : Os) {H : Type} (enc : TypeId × Value → H) : ∃ places, DataW.whole enc Tryd.prog ((laidWorld os).forCall (fun _ _ => 0) ⟨#[], #[.int .u64 0, .int .u64 0], []⟩).memory Tryd.f6.params.toList Rows.fnRankSpec.vars false (#[.int .u64 0, .int .u64 0] : Array Value).toList 8 = some ([.lit (.int .u64 0), .lit (.int .u64 0)], [], places) :=
  ⟨[], by kernel_rfl⟩

set_option maxRecDepth 100000 in
theorem lifted (os : Os) (started : os.Started) (H : Type) (enc : TypeId × Value → H) (F : Stop.Interp) :
    ReturnsInHanded {} Tryd.checked os 6 .any ((OpenSpec.ofChange Rows.fnRankSpec).preRow enc Tryd.prog Tryd.f6 Rows.fnRankRow.domain false Rows.fnRankRow.laid) (((OpenSpec.ofChange Rows.fnRankSpec).at F).post enc Tryd.prog Tryd.f6 false true false false) := by
  obtain ⟨places, hx⟩ := reads os enc
  refine returnsInHanded_of_row (C := Tryd.checked) (s := OpenSpec.ofChange Rows.fnRankSpec) own started (by kernel_rfl) Tryd.func6
    (witness_row_at (enc := enc) (C := Tryd.checked) false (laidWorld os) #[.int .u64 0, .int .u64 0] rfl (by kernel_rfl) (by kernel_rfl) (by kernel_rfl)
      (OpenSpec.preRow_of_cond 8 hx (by kernel_rfl) (fun k hk => by cases hk) (by kernel_rfl) (laid_met os))) ?_
  intro W base args ds gs before hval hW _ _ _ hL _ _
  exact contract H enc W base args ds gs before hval hW hL

theorem said : Rows.FnRankSaid :=
  OpenClaim.holds_of_cond 6 Tryd.f6 rfl rfl rfl rfl rfl rfl rfl ⟨rfl, rfl, rfl, rfl, rfl⟩ rfl rfl rfl rfl rfl (by kernel_rfl) Tryd.func6 (by kernel_rfl)
    (of_decide_eq_true (by kernel_rfl)) (by unfold Func.isWrapper; first | (rw [if_pos (by decide +kernel)]; kernel_rfl) | (rw [if_neg (by decide +kernel)]; exact ⟨rfl, rfl⟩))
    (fun os started H enc _ F => by rw [OpenClaim.pre_eq_preRow]; exact lifted os started H enc F)

theorem plain (f : FuncId) (fn : Func) (hf : Tryd.pinned.checked.prog.funcNamed "lib-bitlathe/laws.FnRank" = some f) (hfn : Tryd.pinned.checked.prog.funcs[f]? = some fn) :
    false = Tryd.pinned.checked.prog.looks [] ∧ ∀ (j : Nat) t, fn.params[j]? = some t → Tryd.pinned.checked.prog.wantsStandIn t = false := by
  obtain rfl : f = 6 := Option.some.inj ((show Tryd.prog.funcNamed "lib-bitlathe/laws.FnRank" = some 6 by kernel_rfl).symm.trans hf) |>.symm
  obtain rfl : fn = Tryd.f6 := (Option.some.inj (Tryd.func6.symm.trans hfn)).symm
  refine ⟨by kernel_rfl, fun j t ht => ?_⟩
  rw [Tryd.params6] at ht
  have ht' : t = 23 ∨ t = 28 := by simpa using Array.mem_of_getElem? ht
  rcases ht' with rfl | rfl
  · exact (show Tryd.prog.wantsStandIn 23 = false by kernel_rfl)
  · exact (show Tryd.prog.wantsStandIn 28 = false by kernel_rfl)

/-- THE CARD -/
theorem proved : Rows.FnRankCardSaid :=
  Claim7.holds_tied_plain_at .later [] _ _ _ _ said (fun _ h => by cases h) (by kernel_rfl) (fun _ h => by cases h) fnRank_row_tie rfl ⟨rfl, rfl⟩ (by kernel_rfl) rfl plain (by kernel_rfl)
#print axioms proved
end Go.Proofs.YthknhfekfieedaaDoor.fnRank
