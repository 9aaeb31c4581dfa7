/-
  PROVED: FnHalves: what is said of 64 bits is said of the halves. Its conditions: the given row's own, and no others.
-/
import Derived.Test.YthknhfekfieedaaDoorCards
import Derived.Test.YthknhfekfieedaaDoorTie
import Derived.Deep.DeepHandedRow
import Derived.Lib.LaidTab
import Derived.Stop.LaidErr
import Derived.Test.YthknhfekfieedaaDoorRows
import Derived.WalkKit
import Derived.ProofKit
import Derived.OpenShut
import Derived.Test.YthknhfekfieedaaDoorLib
import Derived.Test.YthknhfekfieedaaDoorMore
import Derived.Test.YthknhfekfieedaaDoorTz
namespace Go.Proofs.YthknhfekfieedaaDoor.fnHalves
open Go.ChangeShapes Go.WideShapes Go.ChangeAt Go.RowKit Go.Lathe

theorem own : ownKnob Tryd.prog.godebug = none := by kernel_rfl
set_option maxHeartbeats 4000000 in
theorem core (x a b o oa ob la lb l ta tb t ra rb rbs R ba bb bbs B bs rt : Nat) (w : World) (_hx : x < 18446744073709551616)
   (_e1 : (x : Int) / 4294967296 = (a : Int)) (_e2 : (x : Int) % 4294967296 = (b : Int)) (_ha : a < 4294967296) (_hb : b < 4294967296)
   (o6 : ∀ w, Calls Tryd.prog 9 #[.int .u64 x] w fun e w' => e = .returned (.int .i64 o) ∧ w = w')
   (o3 : ∀ w, Calls Tryd.prog 8 #[.int .u32 a] w fun e w' => e = .returned (.int .i64 oa) ∧ ∃ nq, w' = w.drewN nq)
   (o4 : ∀ w, Calls Tryd.prog 8 #[.int .u32 b] w fun e w' => e = .returned (.int .i64 ob) ∧ ∃ nq, w' = w.drewN nq)
   (z6 : ∀ w, Calls Tryd.prog 14 #[.int .u64 x] w fun e w' => e = .returned (.int .i64 (64 - (l : Int))) ∧ w = w')
   (z3 : ∀ w, Calls Tryd.prog 13 #[.int .u32 a] w fun e w' => e = .returned (.int .i64 (32 - (la : Int))) ∧ w = w')
   (z4 : ∀ w, Calls Tryd.prog 13 #[.int .u32 b] w fun e w' => e = .returned (.int .i64 (32 - (lb : Int))) ∧ w = w')
   (l6 : ∀ w, Calls Tryd.prog 12 #[.int .u64 x] w fun e w' => e = .returned (.int .i64 l) ∧ w = w')
   (t6 : ∀ nq, Calls Tryd.prog 16 #[.int .u64 x] (w.drewN nq) fun e w' => e = .returned (.int .i64 t) ∧ w.drewN nq = w')
   (t3 : ∀ nq, Calls Tryd.prog 15 #[.int .u32 a] (w.drewN nq) fun e w' => e = .returned (.int .i64 ta) ∧ w.drewN nq = w')
   (t4 : ∀ nq, Calls Tryd.prog 15 #[.int .u32 b] (w.drewN nq) fun e w' => e = .returned (.int .i64 tb) ∧ w.drewN nq = w')
   (r6 : ∀ w, Calls Tryd.prog 18 #[.int .u64 x] w fun e w' => e = .returned (.int .u64 R) ∧ w = w')
   (r3 : ∀ w, Calls Tryd.prog 17 #[.int .u32 a] w fun e w' => e = .returned (.int .u32 ra) ∧ w = w')
   (r4 : ∀ w, Calls Tryd.prog 17 #[.int .u32 b] w fun e w' => e = .returned (.int .u32 rb) ∧ w = w')
   (b6 : ∀ w, Calls Tryd.prog 20 #[.int .u64 x] w fun e w' => e = .returned (.int .u64 B) ∧ w = w')
   (b3 : ∀ w, Calls Tryd.prog 19 #[.int .u32 a] w fun e w' => e = .returned (.int .u32 ba) ∧ w = w')
   (b4 : ∀ w, Calls Tryd.prog 19 #[.int .u32 b] w fun e w' => e = .returned (.int .u32 bb) ∧ w = w')
   (q6 : ∀ w, Calls Tryd.prog 32 #[.int .u64 x, .int .i64 32] w fun e w' => e = .returned (.int .u64 rt) ∧ w = w')
   (_ho : oa ≤ 32) (_hp : ob ≤ 32) (_h1 : o ≤ oa + ob) (_h2 : oa + ob ≤ o) (_hla : la ≤ 32) (_hlb : lb ≤ 32) (_hta : ta ≤ 32) (_htb : tb ≤ 32) (_hll : l ≤ 64) (_ht6 : t ≤ 64)
   (_lra : ra < 4294967296) (_lrb : rb < 4294967296) (_lba : ba < 4294967296) (_lbb : bb < 4294967296)
   (_s1 : (rb : Int) * 4294967296 = (rbs : Int)) (_s2 : bits .or .u64 (rbs : Int) (ra : Int) = (R : Int))
   (_u1 : (bb : Int) * 4294967296 = (bbs : Int)) (_u2 : bits .or .u64 (bbs : Int) (ba : Int) = (B : Int))
   (_v1 : (b : Int) * 4294967296 = (bs : Int)) (_v2 : bits .or .u64 (bs : Int) (a : Int) = (rt : Int))
   (_c : (((a : Int) == 0) = true ∧ l ≤ lb ∧ lb ≤ l ∧ la ≤ 0) ∨ (((a : Int) == 0) = false ∧ l ≤ 32 + la ∧ 32 + la ≤ l))
   (_d : (((b : Int) == 0) = true ∧ t ≤ 32 + ta ∧ 32 + ta ≤ t ∧ 32 ≤ tb) ∨ (((b : Int) == 0) = false ∧ t ≤ tb ∧ tb ≤ t)) :
    Calls Tryd.prog 7 #[.int .u64 x] w fun e w' => e = .returned (.bool true) ∧ Below w.heap.size w w' := by
  have O6 := Lib.hid o6; have O3 := Lib.hid o3; have O4 := Lib.hid o4; have Z6 := Lib.hid z6; have Z3 := Lib.hid z3; have Z4 := Lib.hid z4; have L6 := Lib.hid l6
  have T6 := Lib.hid t6; have T3 := Lib.hid t3; have T4 := Lib.hid t4; have R6 := Lib.hid r6; have R3 := Lib.hid r3; have R4 := Lib.hid r4; have B6 := Lib.hid b6; have B3 := Lib.hid b3; have B4 := Lib.hid b4; have Q6 := Lib.hid q6
  clear o6 o3 o4 z6 z3 z4 l6 t6 t3 t4 r6 r3 r4 b6 b3 b4 q6
  rcases _c with ⟨c1, c2, c3, c4⟩ | ⟨c1, c2, c3⟩ <;> rcases _d with ⟨d1, d2, d3, d4⟩ | ⟨d1, d2, d3⟩
  all_goals
    go_enter Tryd.func7, Tryd.ntmps7
    go_wp2_with (first
      | (go_at_call 9; (with_reducible refine (O6.out _).mono ?_); rintro e w' ⟨rfl, rfl⟩)
      | (go_at_call 8; (first | (with_reducible refine (O3.out _).mono ?_) | (with_reducible refine (O4.out _).mono ?_)); rintro e w' ⟨rfl, nq, rfl⟩)
      | (go_at_call 14; (with_reducible refine (Z6.out _).mono ?_); rintro e w' ⟨rfl, rfl⟩)
      | (go_at_call 13; (first | (with_reducible refine (Z3.out _).mono ?_) | (with_reducible refine (Z4.out _).mono ?_)); rintro e w' ⟨rfl, rfl⟩)
      | (go_at_call 12; (with_reducible refine (L6.out _).mono ?_); rintro e w' ⟨rfl, rfl⟩)
      | (go_at_call 16; (first | (with_reducible refine (T6.out _).mono ?_) | (refine (T6.out 0).mono ?_)); rintro e w' ⟨rfl, rfl⟩)
      | (go_at_call 15; (first | (with_reducible refine (T4.out _).mono ?_) | (with_reducible refine (T3.out _).mono ?_) | (refine (T4.out 0).mono ?_)); rintro e w' ⟨rfl, rfl⟩)
      | (go_at_call 18; (with_reducible refine (R6.out _).mono ?_); rintro e w' ⟨rfl, rfl⟩)
      | (go_at_call 17; (first | (with_reducible refine (R3.out _).mono ?_) | (with_reducible refine (R4.out _).mono ?_)); rintro e w' ⟨rfl, rfl⟩)
      | (go_at_call 20; (with_reducible refine (B6.out _).mono ?_); rintro e w' ⟨rfl, rfl⟩)
      | (go_at_call 19; (first | (with_reducible refine (B3.out _).mono ?_) | (with_reducible refine (B4.out _).mono ?_)); rintro e w' ⟨rfl, rfl⟩)
      | (go_at_call 32; (with_reducible refine (Q6.out _).mono ?_); rintro e w' ⟨rfl, rfl⟩))
    go_ret
    first
      | exact ⟨rfl, below_drewN (Below.refl _ _) _⟩
      | exact ⟨ret_bool (beq_iff_eq.2 (by omega)), below_drewN (Below.refl _ _) _⟩
theorem low_of_half (x c : Nat) (h : lowAt (x / 2 ^ 32) c) (h0 : x % 2 ^ 32 = 0) : lowAt x (32 + c) := by
  constructor
  · have := h.1
    rw [Nat.testBit_div_two_pow] at this
    rw [Nat.add_comm]; exact this
  · intro i hi
    by_cases h32 : i < 32
    · have := Nat.testBit_mod_two_pow x 32 i
      rw [h0] at this
      simpa [h32] using this.symm
    · have := h.2 (i - 32) (by omega)
      rw [Nat.testBit_div_two_pow, show i - 32 + 32 = i by omega] at this
      exact this
theorem low_of_mod (x c : Nat) (h : lowAt (x % 2 ^ 32) c) (hc : c < 32) : lowAt x c := by
  constructor
  · have := h.1
    rw [Nat.testBit_mod_two_pow] at this
    simpa [hc] using this
  · intro i hi
    have := h.2 i hi
    rw [Nat.testBit_mod_two_pow] at this
    have h32 : i < 32 := by omega
    simpa [h32] using this
theorem walk (x0 : Nat) (h0 : x0 < 18446744073709551616) (w : World) (T32 : TabAt 0 Lib.deBruijn32tab w) (T64 : TabAt 1 Lib.deBruijn64tab w) :
    Calls Tryd.prog 7 #[.int .u64 x0] w fun e w' => e = .returned (.bool true) ∧ Below w.heap.size w w' := by
  have ha : x0 / 4294967296 < 4294967296 := by omega
  have hb : x0 % 4294967296 < 4294967296 := by omega
  have po := pc_add 32 32 x0
  have pm := pc_mod 32 x0
  have rh := rev_halves 32 x0
  have bh := revB_halves 4 x0
  have th := rotl_half 32 x0 (by decide) h0
  simp only [Nat.reduceAdd, Nat.reduceMul, Nat.reducePow] at po pm rh bh th
  have lra : rev 32 (x0 / 4294967296) < 4294967296 := rev_lt 32 _
  have lrb : rev 32 (x0 % 4294967296) < 4294967296 := rev_lt 32 _
  have lba : revB 32 (x0 / 4294967296) < 4294967296 := revB_lt 32 _
  have lbb : revB 32 (x0 % 4294967296) < 4294967296 := revB_lt 32 _
  have s2 := u64_or_nat (rev 32 (x0 % 4294967296) * 4294967296) (rev 32 (x0 / 4294967296)) (by omega) (by omega)
  rw [← rh] at s2
  have u2 := u64_or_nat (revB 32 (x0 % 4294967296) * 4294967296) (revB 32 (x0 / 4294967296)) (by omega) (by omega)
  rw [← bh] at u2
  have v2 := u64_or_nat (x0 % 4294967296 * 4294967296) (x0 / 4294967296) (by omega) (by omega)
  rw [← th] at v2
  have q6 := i_RotateLeft64 x0 32 h0
  rw [show ((32 : Int) % 64).toNat = 32 from rfl] at q6
  have tla := tz_le 32 (x0 / 4294967296) ha
  have tlb := tz_le 32 (x0 % 4294967296) hb
  refine core x0 (x0 / 4294967296) (x0 % 4294967296) _ _ _ (len (x0 / 4294967296)) (len (x0 % 4294967296)) (len x0) (tz 32 (x0 / 4294967296)) (tz 32 (x0 % 4294967296)) (tz 64 x0) _ _ _ _ _ _ _ _ _ _ w h0 (by omega) (by omega) ha hb
    (i_OnesCount64 x0 h0) (i_OnesCount32 _ ha) (i_OnesCount32 _ hb) (i_LeadingZeros64 x0 h0) (i_LeadingZeros32 _ ha) (i_LeadingZeros32 _ hb) (i_Len64 x0 h0)
    (fun nq => i_TrailingZeros64 x0 h0 (w.drewN nq) T64) (fun nq => i_TrailingZeros32 _ ha (w.drewN nq) T32) (fun nq => i_TrailingZeros32 _ hb (w.drewN nq) T32)
    (i_Reverse64 x0 h0) (i_Reverse32 _ ha) (i_Reverse32 _ hb) (i_ReverseBytes64 x0 h0) (i_ReverseBytes32 _ ha) (i_ReverseBytes32 _ hb) q6
    (pc_le 32 _) (pc_le 32 _) (by omega) (by omega) (len_le 32 _ ha) (len_le 32 _ hb) tla tlb (len_le 64 _ h0) (tz_le 64 _ h0) lra lrb lba lbb
    (by omega) s2 (by omega) u2 (by omega) v2 ?_ ?_
  · by_cases hz : x0 / 4294967296 = 0
    · left
      have e : x0 % 4294967296 = x0 := by omega
      have : len (x0 / 4294967296) = 0 := by rw [hz]; rfl
      rw [e]
      exact ⟨by simp; omega, by omega, by omega, by omega⟩
    · right
      have := len_shift 32 x0 (by simp only [Nat.reducePow]; omega)
      simp only [Nat.reducePow] at this
      exact ⟨by simp; omega, by omega, by omega⟩
  · by_cases hz : x0 % 4294967296 = 0
    · left
      have e : tz 32 (x0 % 4294967296) = 32 := by rw [hz]; exact tz_zero 32
      have e2 : tz 64 x0 = 32 + tz 32 (x0 / 4294967296) := by
        by_cases ha0 : x0 / 4294967296 = 0
        · have : x0 = 0 := by omega
          rw [ha0, this, tz_zero, tz_zero]
        · exact tz_eq 64 x0 _ h0 (low_of_half x0 _ (lowAt_tz 32 _ ha0 ha) hz)
      exact ⟨by simp; omega, by omega, by omega, by omega⟩
    · right
      have hl := lowAt_tz 32 _ hz hb
      have hc := lowAt_lt 32 _ _ hb hl
      have e2 := tz_eq 64 x0 _ h0 (low_of_mod x0 _ hl hc)
      exact ⟨by simp; omega, by omega, by omega⟩
theorem gTab0 : Tryd.prog.globalNamed "math/bits.deBruijn32tab" = some 0 := by kernel_rfl
theorem gTabType0 : (Tryd.prog.globals[0]?).map (·.type) = some 44 := by kernel_rfl
theorem cellsT0 : Tryd.prog.cellsOf 44 = 32 := by kernel_rfl
theorem cellsE0 : Tryd.prog.cellsOf 5 = 1 := by kernel_rfl
theorem table0 {W : World} (h : laidMetH Tryd.prog Rows.fnHalvesRow.laid W) : Lib.TabIs Tryd.prog W "math/bits.deBruijn32tab" .u8 (Lib.deBruijn32tab.map (fun n : Nat => (n : Int))) :=
  Lib.tabIs_of_head (rest := _) gTab0 gTabType0 Tryd.underlying44 Tryd.underlying5 cellsE0 cellsT0 h
theorem gTab1 : Tryd.prog.globalNamed "math/bits.deBruijn64tab" = some 1 := by kernel_rfl
theorem gTabType1 : (Tryd.prog.globals[1]?).map (·.type) = some 45 := by kernel_rfl
theorem cellsT1 : Tryd.prog.cellsOf 45 = 64 := by kernel_rfl
theorem cellsE1 : Tryd.prog.cellsOf 5 = 1 := by kernel_rfl
theorem table1 {W : World} (h : laidMetH Tryd.prog Rows.fnHalvesRow.laid W) : Lib.TabIs Tryd.prog W "math/bits.deBruijn64tab" .u8 (Lib.deBruijn64tab.map (fun n : Nat => (n : Int))) :=
  Lib.tabIs_of_head (rest := []) gTab1 gTabType1 Tryd.underlying45 Tryd.underlying5 cellsE1 cellsT1 (laidMet.tail h)

theorem contract (H : Type) (enc : TypeId × Value → H) (W : World) (base : Nat) (args : Array Value) (ds gs : List (DataW H)) (before : List MemPlace)
    (hval : ∀ (j : Nat) t v, Tryd.f7.params[j]? = some t → args[j]? = some v → Value.okWide Tryd.prog W .any base t v)
    (hW : DataW.Whole enc Tryd.prog Tryd.f7.params.toList Rows.fnHalvesSpec.vars false W args.toList ds gs before) (hL : laidMetH Tryd.prog Rows.fnHalvesRow.laid W) :
    Calls Tryd.prog 7 args W fun e W' => ∃ v, e = .returned v ∧ Rows.fnHalvesSpec.post enc Tryd.prog Tryd.f7 false true false false W args v W' := by
  have hW' := hW
  obtain ⟨p, q, hA0, hV, rfl, hfz, hnd⟩ := hW
  have hA : DataW.TrodAll enc Tryd.prog W 0 (fun _ => true) true Tryd.f7.params.toList args.toList ds p := hA0
  rw [Tryd.params7] at hA hval
  obtain ⟨v0, vs0, d0, ds0, p0, q0, hargs, rfl, rfl, h0, r0⟩ := trodAll_cons hA
  obtain ⟨rfl, rfl, rfl⟩ := trodAll_nil r0
  obtain rfl : args = #[v0] := by cases args; simp_all
  obtain ⟨rfl, rfl⟩ := trodVars_none hV
  obtain ⟨a0, rfl, rfl, rfl, w0⟩ := open_int Tryd.underlying23 (hval 0 23 v0 rfl rfl) h0
  have b0 := bounds_u64 w0
  obtain ⟨x0, rfl⟩ := Int.eq_ofNat_of_zero_le b0.1
  clear hA0
  have T32 : TabAt 0 Lib.deBruijn32tab W := fun j hj => by
    have c := (table0 hL).cell gTab0 j (by simpa using hj)
    simpa [List.getD, hj] using c
  have T64 : TabAt 1 Lib.deBruijn64tab W := fun j hj => by
    have c := (table1 hL).cell gTab1 j (by simpa using hj)
    simpa [List.getD, hj] using c
  refine (walk x0 (by omega) W T32 T64).mono fun e W' ⟨he, bel⟩ => ?_
  subst he
  exact ⟨_, rfl, _, _, _, [], _, [], hW', trodAll_mk1 (shut_bool Tryd.underlying4 _), (trodAll_cons_mk (shut_int Tryd.underlying23 w0) trodAll_mk0), rfl, bel.frame _, fun h => by cases h⟩

noncomputable def laidWorld (os : Os) : World :=
  { World.holding Tryd.prog os ⟨#[], #[], []⟩ with heap := (((World.holding Tryd.prog os ⟨#[], #[], []⟩).heap.modify 0 (fun | .cells _ t frozen => .cells #[.int .u8 0, .int .u8 1, .int .u8 28, .int .u8 2, .int .u8 29, .int .u8 14, .int .u8 24, .int .u8 3, .int .u8 30, .int .u8 22, .int .u8 20, .int .u8 15, .int .u8 25, .int .u8 17, .int .u8 4, .int .u8 8, .int .u8 31, .int .u8 27, .int .u8 13, .int .u8 23, .int .u8 21, .int .u8 19, .int .u8 16, .int .u8 7, .int .u8 26, .int .u8 12, .int .u8 18, .int .u8 6, .int .u8 11, .int .u8 5, .int .u8 10, .int .u8 9] t frozen | o => o)).modify 1 (fun | .cells _ t frozen => .cells #[.int .u8 0, .int .u8 1, .int .u8 56, .int .u8 2, .int .u8 57, .int .u8 49, .int .u8 28, .int .u8 3, .int .u8 61, .int .u8 58, .int .u8 42, .int .u8 50, .int .u8 38, .int .u8 29, .int .u8 17, .int .u8 4, .int .u8 62, .int .u8 47, .int .u8 59, .int .u8 36, .int .u8 45, .int .u8 43, .int .u8 51, .int .u8 22, .int .u8 53, .int .u8 39, .int .u8 33, .int .u8 30, .int .u8 24, .int .u8 18, .int .u8 12, .int .u8 5, .int .u8 63, .int .u8 55, .int .u8 48, .int .u8 27, .int .u8 60, .int .u8 41, .int .u8 37, .int .u8 16, .int .u8 46, .int .u8 35, .int .u8 44, .int .u8 21, .int .u8 52, .int .u8 32, .int .u8 23, .int .u8 11, .int .u8 54, .int .u8 26, .int .u8 40, .int .u8 15, .int .u8 34, .int .u8 20, .int .u8 31, .int .u8 10, .int .u8 25, .int .u8 14, .int .u8 19, .int .u8 9, .int .u8 13, .int .u8 8, .int .u8 7, .int .u8 6] t frozen | o => o)) }
theorem laid_met (os : Os) : laidMet Tryd.prog Rows.fnHalvesRow.laid ((laidWorld os).forCall (fun _ _ => 0) ⟨#[], #[.int .u64 0], []⟩).memory :=
  laidMet_of_run' 8 (by kernel_rfl) (by kernel_rfl)
theorem reads (os : Os) {H : Type} (enc : TypeId × Value → H) : ∃ places, DataW.whole enc Tryd.prog ((laidWorld os).forCall (fun _ _ => 0) ⟨#[], #[.int .u64 0], []⟩).memory Tryd.f7.params.toList Rows.fnHalvesSpec.vars false (#[.int .u64 0] : Array Value).toList 8 = some ([.lit (.int .u64 0)], [], places) :=
  ⟨[], by kernel_rfl⟩

set_option maxRecDepth 100000 in
theorem lifted (os : Os) (started : os.Started) (H : Type) (enc : TypeId × Value → H) (F : Stop.Interp) :
    ReturnsInHanded {} Tryd.checked os 7 .any ((OpenSpec.ofChange Rows.fnHalvesSpec).preRow enc Tryd.prog Tryd.f7 Rows.fnHalvesRow.domain false Rows.fnHalvesRow.laid) (((OpenSpec.ofChange Rows.fnHalvesSpec).at F).post enc Tryd.prog Tryd.f7 false true false false) := by
  obtain ⟨places, hx⟩ := reads os enc
  refine returnsInHanded_of_row (C := Tryd.checked) (s := OpenSpec.ofChange Rows.fnHalvesSpec) own started (by kernel_rfl) Tryd.func7
    (witness_row_at (enc := enc) (C := Tryd.checked) false (laidWorld os) #[.int .u64 0] rfl (by kernel_rfl) (by kernel_rfl) (by kernel_rfl)
      (OpenSpec.preRow_of_cond 8 hx (by kernel_rfl) (fun k hk => by cases hk) (by kernel_rfl) (laid_met os))) ?_
  intro W base args ds gs before hval hW _ _ _ hL _ _
  exact contract H enc W base args ds gs before hval hW hL

theorem said : Rows.FnHalvesSaid :=
  OpenClaim.holds_of_cond 7 Tryd.f7 rfl rfl rfl rfl rfl rfl rfl ⟨rfl, rfl, rfl, rfl, rfl⟩ rfl rfl rfl rfl rfl (by kernel_rfl) Tryd.func7 (by kernel_rfl)
    (of_decide_eq_true (by kernel_rfl)) (by unfold Func.isWrapper; first | (rw [if_pos (by decide +kernel)]; kernel_rfl) | (rw [if_neg (by decide +kernel)]; exact ⟨rfl, rfl⟩))
    (fun os started H enc _ F => by rw [OpenClaim.pre_eq_preRow]; exact lifted os started H enc F)

theorem plain (f : FuncId) (fn : Func) (hf : Tryd.pinned.checked.prog.funcNamed "lib-bitlathe/laws.FnHalves" = some f) (hfn : Tryd.pinned.checked.prog.funcs[f]? = some fn) :
    false = Tryd.pinned.checked.prog.looks [] ∧ ∀ (j : Nat) t, fn.params[j]? = some t → Tryd.pinned.checked.prog.wantsStandIn t = false := by
  obtain rfl : f = 7 := Option.some.inj ((show Tryd.prog.funcNamed "lib-bitlathe/laws.FnHalves" = some 7 by kernel_rfl).symm.trans hf) |>.symm
  obtain rfl : fn = Tryd.f7 := (Option.some.inj (Tryd.func7.symm.trans hfn)).symm
  refine ⟨by kernel_rfl, fun j t ht => ?_⟩
  rw [Tryd.params7] at ht
  have ht' : t = 23 := by simpa using Array.mem_of_getElem? ht
  obtain rfl := ht'
  exact (show Tryd.prog.wantsStandIn 23 = false by kernel_rfl)

/-- THE CARD -/
theorem proved : Rows.FnHalvesCardSaid :=
  Claim7.holds_tied_plain_at .later [] _ _ _ _ said (fun _ h => by cases h) (by kernel_rfl) (fun _ h => by cases h) fnHalves_row_tie rfl ⟨rfl, rfl⟩ (by kernel_rfl) rfl plain (by kernel_rfl)
#print axioms proved
end Go.Proofs.YthknhfekfieedaaDoor.fnHalves
