/-
  PROVED: FnPlaces: the places of the ones, taken away from below one by one, are those that are taken away from above one by one, reversed, and both are those that the specification counts. Its conditions: the given row's own, and no others.
-/
import Derived.Test.YtmlkdpgfjhabcaaDoorCards
import Derived.Test.YtmlkdpgfjhabcaaDoorTie
import Derived.Deep.DeepHandedRow
import Derived.Lib.LaidTab
import Derived.Stop.LaidErr
import Derived.Test.YtmlkdpgfjhabcaaDoorRows
import Derived.WalkKit
import Derived.ProofKit
import Derived.OpenShut
import Derived.Test.YtmlkdpgfjhabcaaDoorLib
import Derived.Test.YtmlkdpgfjhabcaaDoorMore
import Derived.Test.YtmlkdpgfjhabcaaDoorTz
import Derived.Test.YtmlkdpgfjhabcaaDoorSpec
import Derived.Test.YtmlkdpgfjhabcaaDoorSpecI
import Derived.Test.YtmlkdpgfjhabcaaDoorSpecL
import Derived.Test.YtmlkdpgfjhabcaaDoorSpecB
namespace Go.Proofs.YtmlkdpgfjhabcaaDoor.fnPlaces
open Go.ChangeShapes Go.WideShapes Go.ChangeAt Go.RowKit Go.Lathe

theorem own : ownKnob Tryd.prog.godebug = none := by kernel_rfl
set_option maxHeartbeats 4000000 in
theorem core (x N : Nat) (w : World) (hx : x < 18446744073709551616) (T64 : TabAt 1 Lib.deBruijn64tab w) (hN : N = (onesL 64 x).length) (hN64 : N ≤ 64) :
    Calls Tryd.prog 6 #[.int .u64 x] w fun e w' => e = .returned (.bool true) ∧ Below w.heap.size w w' := by
  obtain ⟨i0, hi, hz0, hz1, hz2⟩ := info_parts infoI
  have c2 : ∀ w, Calls Tryd.prog 10 #[.int .i64 64, .int .u64 x] w fun e w' => ∃ v, e = .returned v ∧ w'.ownsRow w.heap.size 3 1 v N (placesV (onesL 64 x)) ∧ Below w.heap.size w w' :=
    fun w => (s_Ones 64 x w (by decide) (by decide) (by omega)).mono fun e w' ⟨v, he, ho, hb⟩ => ⟨v, he, by rw [hN]; exact ho, hb⟩
  have c1 := i_OnesCount x hx
  rw [← length_onesL, ← hN] at c1
  have C1 := Lib.hid c1; have C2 := Lib.hid c2; have HX := Lib.hid hx
  have HN := Lib.hid hN
  clear c1 c2 hN
  have HT := Lib.hid T64; clear T64
  go_enter Tryd.func6, Tryd.ntmps6
  go_wp2
  go_loopw [3, 5] (fun v y wr => ∃ t Y : Nat, y = .int .u64 Y ∧ Y < 18446744073709551616 ∧ t ≤ 64 ∧ fromT x t Y ∧ wr.ownsRow w.heap.size 3 1 v (onesL t x).length (placesV (onesL t x)) ∧ Below w.heap.size w wr) (fun _ y _ => (intOf y).toNat)
  case atStart => exact ⟨0, x, rfl, HX.out, Nat.zero_le _, fromT_zero x, World.ownsRow_nil _ _ _ _, Below.refl _ _⟩
  case round =>
    obtain ⟨t, Y, rfl, hY, ht, hf, hown, hnx⟩ := hrel
    have hsz := hnx.size
    have hol := onesL_le t x
    have HF := Lib.hid hf
    clear hf
    by_cases hY0 : Y = 0
    · rename World => wA
      have hz := HF.out
      rw [hY0] at hz
      have hend := fromT_end 64 x t HX.out hz
      rw [← hend, ← HN.out] at hown
      obtain ⟨a, cap, hv⟩ := own_slice hown
      subst hv
      have hyb : ((Y : Int) != 0) = false := by simp; omega
      have HOWN := Lib.hid hown
      have HNX := Lib.hid hnx
      clear hz hend hown hnx hol hY0 hY ht HF
      go_wp2
      go_loopw [4, 6] (fun v y w2 => ∃ (t Z : Nat) (D : List Nat), y = .int .u64 Z ∧ Z < 18446744073709551616 ∧ t ≤ 64 ∧ belowT x t Z ∧ onesL 64 x = onesL t x ++ D.reverse ∧ w2.ownsRow wA.heap.size 3 1 v D.length (placesV D) ∧ Below wA.heap.size wA w2) (fun _ y _ => (intOf y).toNat)
      case atStart => exact ⟨64, x, [], rfl, HX.out, Nat.le_refl _, belowT_start 64 x HX.out, by simp, World.ownsRow_nil _ _ _ _, Below.refl _ _⟩
      case round =>
        obtain ⟨t, Z, D, rfl, hZ, ht, hf, hD, hown, hnx⟩ := hrel
        have hsz2 := hnx.size
        have hdl : D.length ≤ N := by
          have h := congrArg List.length hD
          rw [List.length_append, List.length_reverse, ← HN.out] at h
          omega
        have HF := Lib.hid hf
        have HD := Lib.hid hD
        clear hf hD
        by_cases hZ0 : Z = 0
        · have hz := HF.out
          rw [hZ0] at hz
          have hend := belowT_end x t hz
          have hDD : onesL 64 x = D.reverse := by rw [HD.out, hend]; simp
          have hDl : D.length = N := by rw [HN.out, hDD]; simp
          rw [hDl] at hown
          have hyb : ((Z : Int) != 0) = false := by simp; omega
          have HDD := Lib.hid hDD
          have HDL := Lib.hid hDl
          have HNX2 := Lib.hid hnx
          have HOWN2 := Lib.hid hown
          have hNi : (N : Int) < 65 := by omega
          clear hz hend hDD hDl hZ0 hZ ht HF HD hnx hdl hsz2
          by_cases hN0 : N = 0
          · subst hN0
            obtain ⟨a2, cap2, hv2⟩ := own_slice hown
            subst hv2
            clear hown
            go_wp2_with (first
              | (go_at_call 9; (with_reducible refine (s_Reverse_nil _ _ _).mono ?_); rintro e w' ⟨rfl, rfl⟩) | (go_at_call 21; (with_reducible refine (s_Width _).mono ?_); rintro e w' ⟨rfl, rfl⟩)
              | (go_at_call 10; (with_reducible refine (C2.out _).mono ?_); rintro e w3 ⟨v3, rfl, ho3, hb3⟩; obtain ⟨a3, cap3, rfl⟩ := own_slice ho3)
              | (go_at_call 11; (with_reducible refine (s_Equal_nil _ _ _ _ _).mono ?_); rintro e w' ⟨rfl, rfl⟩)
              | (go_at_call 22; (with_reducible refine (C1.out _).mono ?_); rintro e w' ⟨rfl, rfl⟩)
              | (go_at_call 20; (with_reducible refine (i_Len_max _).mono ?_); rintro e w' ⟨rfl, rfl⟩))
            go_ret
            refine ⟨rfl, ?_⟩
            repeat (first | exact below_two (below_two HNX.out HNX2.out) hb3 | refine below_drewN ?_ _)
          · have hpos : 0 < N := by omega
            obtain ⟨g1, k1, hv1, hg1, hg1', hk1, hl1⟩ := ownI_shape HN.out HOWN.out hpos
            obtain ⟨g2, k2, hv2, hg2, hk2, hh2⟩ := ownI_has HDL.out.symm HOWN2.out hpos
            obtain rfl : a = some ⟨g1, 0, none⟩ := by injection hv1
            subst hv2
            have HL1 := Lib.hid hl1
            have HH2 := Lib.hid hh2
            clear hown hv1 hl1 hh2
            go_wp2_with (first
              | (go_at_call 9; (with_reducible refine (s_Reverse g2 N _ _ _ hN64 hpos HH2.out).mono ?_); rintro e w3 ⟨rfl, hr3, hb3⟩; have HR3 := Lib.hid hr3; have HB3 := Lib.hid hb3; clear hr3 hb3) | (go_at_call 21; (with_reducible refine (s_Width _).mono ?_); rintro e w' ⟨rfl, rfl⟩)
              | (go_at_call 10; (with_reducible refine (C2.out _).mono ?_); rintro e w4 ⟨v4, rfl, ho4, hb4⟩; obtain ⟨g4, k4, rfl, hg4, hg4', hk4, hl4⟩ := ownI_shape HN.out ho4 hpos; have BB := Lib.hid (places_below HNX.out HNX2.out hg2 HB3.out hb4); have LL := Lib.hid (places_lie HNX2.out hg1' hg2 HB3.out hb4 HL1.out HR3.out HDD.out HDL.out); have HL4 := Lib.hid hl4; clear ho4 hb4 hl4)
              | (go_at_call 11; (with_reducible refine (s_Equal g1 g4 N _ _ (onesL 64 x) _ HN.out hN64 LL.out.1 HL4.out).mono ?_); rintro e w' ⟨rfl, nq, rfl⟩)
              | (go_at_call 11; (with_reducible refine (s_Equal g2 g4 N _ _ (onesL 64 x) _ HN.out hN64 (LL.out.2.drewN _) (HL4.out.drewN _)).mono ?_); rintro e w' ⟨rfl, nq, rfl⟩)
              | (go_at_call 22; (with_reducible refine (C1.out _).mono ?_); rintro e w' ⟨rfl, rfl⟩)
              | (go_at_call 20; (with_reducible refine (i_Len_max _).mono ?_); rintro e w' ⟨rfl, rfl⟩))
            go_ret
            refine ⟨rfl, ?_⟩
            repeat (first | exact BB.out | refine below_drewN ?_ _)
        · obtain ⟨k, hk⟩ : ∃ k, len Z = k + 1 := by
            have h := lenIs_zero_iff Z _ (lenIs_len Z)
            exact ⟨len Z - 1, by omega⟩
          have hl := lenIs_len Z
          rw [hk] at hl
          obtain ⟨g1, g2, g3, g4, g5⟩ := belowT_top 64 x t Z k hZ HF.out hl
          rw [show (2 : Nat) ^ 64 - 1 = 18446744073709551615 from rfl] at g5
          have cl := i_Len Z hZ
          rw [hk, show ((k + 1 : Nat) : Int) = (k : Int) + 1 by omega] at cl
          have CL := Lib.hid cl
          have e1 := pow_u64 k g2
          have e2 := u64_andNot_nat Z (2 ^ k) hZ (two_pow_lt k 64 g2)
          have hk1 : (k : Int) + 1 - 1 = (k : Int) := by omega
          have hmx : (if 0 < k then (k : Int) else 0) = (k : Int) := by split <;> omega
          have NX : Hid (Z &&& (18446744073709551615 - 2 ^ k) < 18446744073709551616 ∧ Z &&& (18446744073709551615 - 2 ^ k) < Z ∧ belowT x k (Z &&& (18446744073709551615 - 2 ^ k)) ∧ onesL 64 x = onesL k x ++ (D ++ [k]).reverse) := by
            refine ⟨Nat.lt_of_le_of_lt Nat.and_le_left hZ, ?_, g5, by rw [HD.out, g4]; simp⟩
            have h1 : Z &&& (18446744073709551615 - 2 ^ k) ≤ Z := Nat.and_le_left
            have h2 : (Z &&& (18446744073709551615 - 2 ^ k)).testBit k = false := by rw [g5 k]; simp
            have h3 : Z.testBit k = true := by
              rcases hl.2 with h | h
              · omega
              · simpa using h
            rcases Nat.lt_or_eq_of_le h1 with h | h
            · exact h
            · rw [h, h3] at h2; cases h2
          have hyb : ((Z : Int) != 0) = true := by simp; omega
          obtain ⟨a2, cap2, hv2⟩ := own_slice hown
          subst hv2
          have hlb : (D.length : Int) < 65 := by omega
          clear hk hl cl g1 g3 g4 g5 hZ0
          generalize Z &&& (18446744073709551615 - 2 ^ k) = Z2 at e2 NX
          generalize (2 : Nat) ^ k = p at e1 e2
          go_wp2_with (first
            | (go_at_call 20; (with_reducible refine (CL.out _).mono ?_); rintro e w' ⟨rfl, rfl⟩)
            | (at_builtin; refine wpList_append_own _ rfl _ _ 23 rfl wA.heap.size 3 i0 (.int .i64 0) 1 8 Tryd.underlying23 hi hz0 hz1 hz2 rfl (by decide) _ _ _ rfl (hown.alloc _) ⟨wr.heap.size, 0, none⟩ 1 1 [.int .i64 (k : Int)] rfl rfl ?c1 ?c2 ?c3 ?c4 ?c5 ?_))
          case c1 =>
            intro j u hj
            match j, hj with
            | 0, hj => simp at hj; subst hj; simp [Addr.add]
          case c2 => intro u hu; simp at hu; subst hu; rfl
          case c3 => unfold maxLen; omega
          case c4 => omega
          case c5 => simp; omega
          intro v' w3 hown' hgrow _
          have R := below_push hsz2 hnx hown hgrow
          have O : w3.ownsRow wA.heap.size 3 1 v' (D ++ [k]).length (placesV (D ++ [k])) := by
            simpa [placesV] using hown'
          have HO := Lib.hid O
          clear hown' hgrow hown hnx O
          go_wp2_with (go_at_call 20; (with_reducible refine (CL.out _).mono ?_); rintro e w' ⟨rfl, rfl⟩)
          go_roundw
          case rel => exact ⟨k, Z2, D ++ [k], by first | rfl | rw [hmx, Int.toNat_natCast, e1, e2], NX.out.1, by omega, NX.out.2.2.1, NX.out.2.2.2, HO.out, R⟩
          case measure => have := NX.out.2.1; (try rw [hmx, Int.toNat_natCast, e1, e2]); simp [intOf]; omega
    · obtain ⟨c, hc⟩ := lowAt_exists Y hY0
      obtain ⟨f1, f2, f3, f4⟩ := fromT_low x t Y c HF.out hc
      have htz := tz_eq 64 Y c hY hc
      have hcn := lowAt_lt 64 Y c hY hc
      have ct := i_TrailingZeros Y hY wr (HT.out.below hnx (HT.out.lt (by decide)))
      rw [htz] at ct
      have CT := Lib.hid ct
      have NX : Hid (Y &&& (Y - 1) < 18446744073709551616 ∧ Y &&& (Y - 1) < Y ∧ fromT x (c + 1) (Y &&& (Y - 1)) ∧ onesL (c + 1) x = onesL t x ++ [c]) :=
        ⟨Nat.lt_of_le_of_lt Nat.and_le_left hY, by have : Y &&& (Y - 1) ≤ Y - 1 := Nat.and_le_right; omega, f4, f3⟩
      have e := u64_and_nat Y (Y - 1) hY (by omega)
      rw [show ((Y - 1 : Nat) : Int) = (Y : Int) - 1 by omega] at e
      have hY1 : 1 ≤ Y := by omega
      have hyb : ((Y : Int) != 0) = true := by simp; omega
      have hlb : ((onesL t x).length : Int) < 65 := by omega
      obtain ⟨a, cap, hv⟩ := own_slice hown
      subst hv
      clear htz ct hc f1 f2 f3 f4 hY0
      generalize Y &&& (Y - 1) = Y2 at e NX
      have HOL := Lib.hid hol
      have hll : (onesL t x).length ≤ 64 := by omega
      go_wp2_with (first
        | (go_at_call 19; (with_reducible refine CT.out.mono ?_); rintro e w' ⟨rfl, rfl⟩)
        | (at_builtin; refine wpList_append_own _ rfl _ _ 23 rfl w.heap.size 3 i0 (.int .i64 0) 1 8 Tryd.underlying23 hi hz0 hz1 hz2 rfl (by decide) _ _ _ rfl (hown.alloc _) ⟨wr.heap.size, 0, none⟩ 1 1 [.int .i64 (c : Int)] rfl rfl ?c1 ?c2 ?c3 ?c4 ?c5 ?_))
      case c1 =>
        intro j u hj
        match j, hj with
        | 0, hj => simp at hj; subst hj; simp [Addr.add]
      case c2 => intro u hu; simp at hu; subst hu; rfl
      case c3 => unfold maxLen; omega
      case c4 => omega
      case c5 => simp; omega
      intro v' w2 hown' hgrow _
      have R := below_push hsz hnx hown hgrow
      have O : w2.ownsRow w.heap.size 3 1 v' (onesL (c + 1) x).length (placesV (onesL (c + 1) x)) := by
        rw [NX.out.2.2.2]; simpa [placesV] using hown'
      have HO := Lib.hid O
      clear hown' hgrow hown hnx O
      go_wp2
      go_roundw
      case rel => exact ⟨c + 1, Y2, rfl, NX.out.1, by omega, NX.out.2.2.1, HO.out, R⟩
      case measure => have := NX.out.2.1; simp [intOf]; omega
theorem walk (x0 : Nat) (h0 : x0 < 18446744073709551616) (w : World) (T64 : TabAt 1 Lib.deBruijn64tab w) :
    Calls Tryd.prog 6 #[.int .u64 x0] w fun e w' => e = .returned (.bool true) ∧ Below w.heap.size w w' :=
  core x0 _ w h0 T64 rfl (Nat.le_trans (onesL_le 64 x0) (by decide))
theorem gTab0 : Tryd.prog.globalNamed "math/bits.deBruijn32tab" = some 0 := by kernel_rfl
theorem gTabType0 : (Tryd.prog.globals[0]?).map (·.type) = some 41 := by kernel_rfl
theorem cellsT0 : Tryd.prog.cellsOf 41 = 32 := by kernel_rfl
theorem cellsE0 : Tryd.prog.cellsOf 5 = 1 := by kernel_rfl
theorem table0 {W : World} (h : laidMetH Tryd.prog Rows.fnPlacesRow.laid W) : Lib.TabIs Tryd.prog W "math/bits.deBruijn32tab" .u8 (Lib.deBruijn32tab.map (fun n : Nat => (n : Int))) :=
  Lib.tabIs_of_head (rest := _) gTab0 gTabType0 Tryd.underlying41 Tryd.underlying5 cellsE0 cellsT0 h
theorem gTab1 : Tryd.prog.globalNamed "math/bits.deBruijn64tab" = some 1 := by kernel_rfl
theorem gTabType1 : (Tryd.prog.globals[1]?).map (·.type) = some 42 := by kernel_rfl
theorem cellsT1 : Tryd.prog.cellsOf 42 = 64 := by kernel_rfl
theorem cellsE1 : Tryd.prog.cellsOf 5 = 1 := by kernel_rfl
theorem table1 {W : World} (h : laidMetH Tryd.prog Rows.fnPlacesRow.laid W) : Lib.TabIs Tryd.prog W "math/bits.deBruijn64tab" .u8 (Lib.deBruijn64tab.map (fun n : Nat => (n : Int))) :=
  Lib.tabIs_of_head (rest := []) gTab1 gTabType1 Tryd.underlying42 Tryd.underlying5 cellsE1 cellsT1 (laidMet.tail h)

theorem contract (H : Type) (enc : TypeId × Value → H) (W : World) (base : Nat) (args : Array Value) (ds gs : List (DataW H)) (before : List MemPlace)
    (hval : ∀ (j : Nat) t v, Tryd.f6.params[j]? = some t → args[j]? = some v → Value.okWide Tryd.prog W .any base t v)
    (hW : DataW.Whole enc Tryd.prog Tryd.f6.params.toList Rows.fnPlacesSpec.vars false W args.toList ds gs before) (hL : laidMetH Tryd.prog Rows.fnPlacesRow.laid W) :
    Calls Tryd.prog 6 args W fun e W' => ∃ v, e = .returned v ∧ Rows.fnPlacesSpec.post enc Tryd.prog Tryd.f6 false true false false W args v W' := by
  have hW' := hW
  obtain ⟨p, q, hA0, hV, rfl, hfz, hnd⟩ := hW
  have hA : DataW.TrodAll enc Tryd.prog W 0 (fun _ => true) true Tryd.f6.params.toList args.toList ds p := hA0
  rw [Tryd.params6] at hA hval
  obtain ⟨v0, vs0, d0, ds0, p0, q0, hargs, rfl, rfl, h0, r0⟩ := trodAll_cons hA
  obtain ⟨rfl, rfl, rfl⟩ := trodAll_nil r0
  obtain rfl : args = #[v0] := by cases args; simp_all
  obtain ⟨rfl, rfl⟩ := trodVars_none hV
  obtain ⟨a0, rfl, rfl, rfl, w0⟩ := open_int Tryd.underlying35 (hval 0 35 v0 rfl rfl) h0
  have b0 := bounds_u64 w0
  obtain ⟨x0, rfl⟩ := Int.eq_ofNat_of_zero_le b0.1
  clear hA0
  have T64 : TabAt 1 Lib.deBruijn64tab W := fun j hj => by
    have c := (table1 hL).cell gTab1 j (by simpa using hj)
    simpa [List.getD, hj] using c
  refine (walk x0 (by omega) W T64).mono fun e W' ⟨he, bel⟩ => ?_
  subst he
  exact ⟨_, rfl, _, _, _, [], _, [], hW', trodAll_mk1 (shut_bool Tryd.underlying4 _), (trodAll_cons_mk (shut_int Tryd.underlying35 w0) trodAll_mk0), rfl, bel.frame _, fun h => by cases h⟩

noncomputable def laidWorld (os : Os) : World :=
  { World.holding Tryd.prog os ⟨#[], #[], []⟩ with heap := (((World.holding Tryd.prog os ⟨#[], #[], []⟩).heap.modify 0 (fun | .cells _ t frozen => .cells #[.int .u8 0, .int .u8 1, .int .u8 28, .int .u8 2, .int .u8 29, .int .u8 14, .int .u8 24, .int .u8 3, .int .u8 30, .int .u8 22, .int .u8 20, .int .u8 15, .int .u8 25, .int .u8 17, .int .u8 4, .int .u8 8, .int .u8 31, .int .u8 27, .int .u8 13, .int .u8 23, .int .u8 21, .int .u8 19, .int .u8 16, .int .u8 7, .int .u8 26, .int .u8 12, .int .u8 18, .int .u8 6, .int .u8 11, .int .u8 5, .int .u8 10, .int .u8 9] t frozen | o => o)).modify 1 (fun | .cells _ t frozen => .cells #[.int .u8 0, .int .u8 1, .int .u8 56, .int .u8 2, .int .u8 57, .int .u8 49, .int .u8 28, .int .u8 3, .int .u8 61, .int .u8 58, .int .u8 42, .int .u8 50, .int .u8 38, .int .u8 29, .int .u8 17, .int .u8 4, .int .u8 62, .int .u8 47, .int .u8 59, .int .u8 36, .int .u8 45, .int .u8 43, .int .u8 51, .int .u8 22, .int .u8 53, .int .u8 39, .int .u8 33, .int .u8 30, .int .u8 24, .int .u8 18, .int .u8 12, .int .u8 5, .int .u8 63, .int .u8 55, .int .u8 48, .int .u8 27, .int .u8 60, .int .u8 41, .int .u8 37, .int .u8 16, .int .u8 46, .int .u8 35, .int .u8 44, .int .u8 21, .int .u8 52, .int .u8 32, .int .u8 23, .int .u8 11, .int .u8 54, .int .u8 26, .int .u8 40, .int .u8 15, .int .u8 34, .int .u8 20, .int .u8 31, .int .u8 10, .int .u8 25, .int .u8 14, .int .u8 19, .int .u8 9, .int .u8 13, .int .u8 8, .int .u8 7, .int .u8 6] t frozen | o => o)) }
theorem laid_met (os : Os) : laidMet Tryd.prog Rows.fnPlacesRow.laid ((laidWorld os).forCall (fun _ _ => 0) ⟨#[], #[.int .u64 0], []⟩).memory :=
  laidMet_of_run' 8 (by kernel_rfl) (by kernel_rfl)
theorem reads (os : Os) {H : Type} (enc : TypeId × Value → H) : ∃ places, DataW.whole enc Tryd.prog ((laidWorld os).forCall (fun _ _ => 0) ⟨#[], #[.int .u64 0], []⟩).memory Tryd.f6.params.toList Rows.fnPlacesSpec.vars false (#[.int .u64 0] : Array Value).toList 8 = some ([.lit (.int .u64 0)], [], places) :=
  ⟨[], by kernel_rfl⟩

set_option maxRecDepth 100000 in
theorem lifted (os : Os) (started : os.Started) (H : Type) (enc : TypeId × Value → H) (F : Stop.Interp) :
    ReturnsInHanded {} Tryd.checked os 6 .any ((OpenSpec.ofChange Rows.fnPlacesSpec).preRow enc Tryd.prog Tryd.f6 Rows.fnPlacesRow.domain false Rows.fnPlacesRow.laid) (((OpenSpec.ofChange Rows.fnPlacesSpec).at F).post enc Tryd.prog Tryd.f6 false true false false) := by
  obtain ⟨places, hx⟩ := reads os enc
  refine returnsInHanded_of_row (C := Tryd.checked) (s := OpenSpec.ofChange Rows.fnPlacesSpec) own started (by kernel_rfl) Tryd.func6
    (witness_row_at (enc := enc) (C := Tryd.checked) false (laidWorld os) #[.int .u64 0] rfl (by kernel_rfl) (by kernel_rfl) (by kernel_rfl)
      (OpenSpec.preRow_of_cond 8 hx (by kernel_rfl) (fun k hk => by cases hk) (by kernel_rfl) (laid_met os))) ?_
  intro W base args ds gs before hval hW _ _ _ hL _ _
  exact contract H enc W base args ds gs before hval hW hL

theorem said : Rows.FnPlacesSaid :=
  OpenClaim.holds_of_cond 6 Tryd.f6 rfl rfl rfl rfl rfl rfl rfl ⟨rfl, rfl, rfl, rfl, rfl⟩ rfl rfl rfl rfl rfl (by kernel_rfl) Tryd.func6 (by kernel_rfl)
    (of_decide_eq_true (by kernel_rfl)) (by unfold Func.isWrapper; first | (rw [if_pos (by decide +kernel)]; kernel_rfl) | (rw [if_neg (by decide +kernel)]; exact ⟨rfl, rfl⟩))
    (fun os started H enc _ F => by rw [OpenClaim.pre_eq_preRow]; exact lifted os started H enc F)

theorem plain (f : FuncId) (fn : Func) (hf : Tryd.pinned.checked.prog.funcNamed "lib-bitlathe/laws.FnPlaces" = some f) (hfn : Tryd.pinned.checked.prog.funcs[f]? = some fn) :
    false = Tryd.pinned.checked.prog.looks [] ∧ ∀ (j : Nat) t, fn.params[j]? = some t → Tryd.pinned.checked.prog.wantsStandIn t = false := by
  obtain rfl : f = 6 := Option.some.inj ((show Tryd.prog.funcNamed "lib-bitlathe/laws.FnPlaces" = some 6 by kernel_rfl).symm.trans hf) |>.symm
  obtain rfl : fn = Tryd.f6 := (Option.some.inj (Tryd.func6.symm.trans hfn)).symm
  refine ⟨by kernel_rfl, fun j t ht => ?_⟩
  rw [Tryd.params6] at ht
  have ht' : t = 35 := by simpa using Array.mem_of_getElem? ht
  obtain rfl := ht'
  exact (show Tryd.prog.wantsStandIn 35 = false by kernel_rfl)

/-- THE CARD -/
theorem proved : Rows.FnPlacesCardSaid :=
  Claim7.holds_tied_plain_at .later [] _ _ _ _ said (fun _ h => by cases h) (by kernel_rfl) (fun _ h => by cases h) fnPlaces_row_tie rfl ⟨rfl, rfl⟩ (by kernel_rfl) rfl plain (by kernel_rfl)
#print axioms proved
end Go.Proofs.YtmlkdpgfjhabcaaDoor.fnPlaces
