/-
  Contracts of the reference (package spec): the lists of bits, their values, and what the reference reckons out of them.
-/
import Derived.Test.YtbliimclmdigcaaLib
import Derived.Test.YtbliimclmdigcaaMore
import Derived.LoopTactic
import Derived.OwnWalk
namespace Go.Proofs.Ytbliimclmdigcaa
open Go.RowKit Go.Lathe
theorem infoB : (Try.prog.info? 4).map (fun i => (i.zero, i.size, i.bytes)) = some (some (.bool false), 1, 1) := by kernel_rfl
/-- a new row of bools -/
def RowB (n : Nat) (f : Nat → Bool) (w : World) (e : Ending) (w' : World) : Prop :=
  ∃ v, e = .returned v ∧ w'.ownsRow w.heap.size 4 1 v n ((fbits n f).map Value.bool) ∧ Below w.heap.size w w'
theorem below_push {B : Nat} {w wr w1 : World} {o : Obj} {E : TypeId} {v : Value} {n : Nat} {xs : List Value} (hB : B ≤ wr.heap.size) (hnx : Below B w wr) (hown : wr.ownsRow B E 1 v n xs) (hg : (wr.alloc o).grownBy w1 v.ownBlock) : Below B w w1 :=
  (hnx.alloc hB o).grown hg (by simp; omega) (fun k hk => (hown.lt k hk).1)
/-- a row of bools that lies in memory -/
def LiesB (w : World) (g n : Nat) (f : Nat → Bool) : Prop := ∀ j, j < n → w.cell? ⟨g, j, none⟩ = some (.bool (f j))
def VV (n : Nat) (f : Nat → Bool) (k : Nat) : Nat := valL ((fbits n f).drop k)
theorem VV_top (n : Nat) (f : Nat → Bool) : VV n f n = 0 := by
  unfold VV; rw [List.drop_eq_nil_of_le (by rw [length_fbits]; exact Nat.le_refl _)]; rfl
theorem VV_zero (n : Nat) (f : Nat → Bool) : VV n f 0 = ofBits n f := by unfold VV; rw [List.drop_zero, valL_fbits]
theorem VV_step (n : Nat) (f : Nat → Bool) (m : Nat) (h : m < n) : VV n f m = (f m).toNat + 2 * VV n f (m + 1) := by
  unfold VV; rw [valL_drop _ _ (by rw [length_fbits]; exact h), fbits_getD n f m h]
theorem VV_lt (n : Nat) (f : Nat → Bool) (m : Nat) (hn : n ≤ 64) : VV n f (m + 1) < 9223372036854775808 := by
  have h := valL_drop_lt (fbits n f) (m + 1)
  rw [length_fbits] at h
  have := two_pow_le (n - (m + 1)) 63 (by omega)
  rw [show (2 : Nat) ^ 63 = 9223372036854775808 from rfl] at this
  unfold VV; omega

theorem RowB.shape {n : Nat} {f : Nat → Bool} {w w' : World} {e : Ending} (h : RowB n f w e w') (hn : 0 < n) :
    ∃ g cap, e = .returned (.slice (some ⟨g, 0, none⟩) n cap) ∧ w.heap.size ≤ g ∧ g < w'.heap.size ∧ n ≤ cap ∧ LiesB w' g n f ∧ Below w.heap.size w w' := by
  obtain ⟨v, rfl, ho, hb⟩ := h
  rcases ho.2 with ⟨rfl, h0⟩ | ⟨g, cap, cur, rfl, hg, hh, hc, _⟩
  · omega
  · refine ⟨g, cap, rfl, hg, (ho.lt g rfl).2, hc, ?_, hb⟩
    intro j hj
    have := ho.cells (g := g) rfl j (.bool (f j)) (by rw [List.getElem?_map, fbits_get? n f j hj]; rfl)
    have e : (⟨g, 0, none⟩ : Addr).add j = ⟨g, j, none⟩ := by unfold Addr.add; split <;> simp_all
    rw [e] at this
    exact this
theorem own_shape {w : World} {B n : Nat} {f : Nat → Bool} {v : Value} (ho : w.ownsRow B 4 1 v n ((fbits n f).map Value.bool)) (hn : 0 < n) :
    ∃ g cap, v = .slice (some ⟨g, 0, none⟩) n cap ∧ B ≤ g ∧ g < w.heap.size ∧ n ≤ cap ∧ LiesB w g n f := by
  rcases ho.2 with ⟨rfl, h0⟩ | ⟨g, cap, cur, rfl, hg, hh, hc, _⟩
  · omega
  · refine ⟨g, cap, rfl, hg, (ho.lt g rfl).2, hc, ?_⟩
    intro j hj
    have := ho.cells (g := g) rfl j (.bool (f j)) (by rw [List.getElem?_map, fbits_get? n f j hj]; rfl)
    have e : (⟨g, 0, none⟩ : Addr).add j = ⟨g, j, none⟩ := by unfold Addr.add; split <;> simp_all
    rw [e] at this
    exact this
theorem LiesB.below {w w' : World} {g n B : Nat} {f : Nat → Bool} (h : LiesB w g n f) (hb : Below B w w') (hg : g < B) : LiesB w' g n f := fun j hj => (hb.cell hg).trans (h j hj)
theorem below_two {w w1 w2 : World} (h1 : Below w.heap.size w w1) (h2 : Below w1.heap.size w1 w2) : Below w.heap.size w w2 := h1.trans (h2.mono h1.size)
set_option maxHeartbeats 1000000 in
theorem s_Of (x n : Nat) (w : World) (hn : n ≤ 64) (hx : x < 18446744073709551616) :
    Calls Try.prog 32 #[.int .u64 x, .int .i64 n] w (RowB n x.testBit w) := by
  obtain ⟨i0, hi, hz0, hz1, hz2⟩ := info_parts infoB
  go_enter Try.func32, Try.ntmps32
  go_wp2
  go_loopw [0, 5, 7] (fun xv v i wr => ∃ k : Nat, k ≤ n ∧ i = .int .i64 k ∧ xv = .int .u64 ((x / 2 ^ k : Nat) : Int) ∧ wr.ownsRow w.heap.size 4 1 v k ((fbits k x.testBit).map Value.bool) ∧ Below w.heap.size w wr)
    (fun _ _ i _ => n - (intOf i).toNat)
  case atStart => exact ⟨0, Nat.zero_le _, rfl, by simp, World.ownsRow_nil _ _ _ _, Below.refl _ _⟩
  case round =>
    obtain ⟨k, hk, rfl, rfl, hown, hnx⟩ := hrel
    have hb := bit_div x k
    have hy : x / 2 ^ k < 18446744073709551616 := Nat.lt_of_le_of_lt (Nat.div_le_self _ _) hx
    have hd := div_pow_succ x k
    obtain ⟨y, hyy⟩ : ∃ y, y = x / 2 ^ k := ⟨_, rfl⟩
    rw [← hyy] at hb hy hd ⊢
    have hbI : ((y : Int) % 2 == 1) = x.testBit k := by
      rw [← hb, Bool.eq_iff_iff]; simp only [beq_iff_eq]; omega
    clear hb
    have hsz := hnx.size
    have HD := Lib.hid hd
    have HY := Lib.hid hyy
    clear hd hyy hx
    by_cases hlt : k < n
    · go_wp2_with (first
        | (at_builtin; refine wpList_append_own _ rfl _ _ 39 rfl w.heap.size 4 i0 (.bool false) 1 1 Try.underlying39 hi hz0 hz1 hz2 rfl (by decide) _ _ _ rfl (hown.alloc _) ⟨wr.heap.size, 0, none⟩ 1 1 [.bool (x.testBit k)] rfl rfl ?c1 ?c2 ?c3 ?c4 ?c5 ?_))
      case c1 =>
        intro j u hj
        match j, hj with
        | 0, hj => simp at hj; subst hj; simp [Addr.add]
      case c2 => intro u hu; simp at hu; subst hu; rfl
      case c3 => unfold maxLen; omega
      case c4 => omega
      case c5 => simp; omega
      intro v' w1 hown' hgrow _
      have R := below_push hsz hnx hown hgrow
      have O : w1.ownsRow w.heap.size 4 1 v' (k + 1) ((fbits (k + 1) x.testBit).map Value.bool) := by
        rw [fbits_succ, List.map_append]; exact hown'
      clear hown' hgrow hown hnx
      go_wp2
      go_roundw
      case rel => exact ⟨k + 1, by omega, by go_num, by rw [← HD.out]; go_num, O, R⟩
      case measure => simp [intOf]; omega
    · have hkn : k = n := by omega
      go_wp2
      go_ret
      subst hkn
      exact ⟨_, rfl, hown, hnx⟩
set_option maxHeartbeats 1000000 in
theorem s_Value (g n cap : Nat) (f : Nat → Bool) (w : World) (hn : n ≤ 64) (hc : LiesB w g n f) :
    Calls Try.prog 34 #[.slice (some ⟨g, 0, none⟩) n cap] w fun e w' => e = .returned (.int .u64 ((ofBits n f : Nat) : Int)) ∧ w = w' := by
  have HC := Lib.hid hc
  clear hc
  go_enter Try.func34, Try.ntmps34
  go_wp2
  go_loop [3, 4] (fun s i => ∃ k : Nat, k ≤ n ∧ i = .int .i64 ((k : Int) - 1) ∧ s = .int .u64 ((VV n f k : Nat) : Int)) (fun _ i => (intOf i + 1).toNat)
  case atStart => exact ⟨n, Nat.le_refl _, rfl, by rw [VV_top]; rfl⟩
  case round =>
    obtain ⟨k, hk, rfl, rfl⟩ := hrel
    by_cases h0 : k = 0
    · subst h0
      go_wp2
      go_ret
      exact ⟨ret_int (by rw [VV_zero]), rfl⟩
    · obtain ⟨m, rfl⟩ : ∃ m, k = m + 1 := ⟨k - 1, by omega⟩
      have hst := VV_step n f m (by omega)
      have hlt := VV_lt n f m hn
      have hcell := HC.out m (by omega)
      rw [show (((m + 1 : Nat) : Int) - 1) = (m : Int) by omega]
      have hm : m < n := by omega
      have HS := Lib.hid hst
      clear hst h0 hk
      generalize VV n f (m + 1) = V at HS hlt ⊢
      cases hf : f m
      · rw [hf] at hcell HS
        clear hf
        go_wp2
        go_round
        case rel => exact ⟨m, by omega, by go_num, by rw [HS.out]; refine congrArg _ ?_; simp; omega⟩
        case measure => simp [intOf]
      · rw [hf] at hcell HS
        clear hf
        go_wp2
        go_round
        case rel => exact ⟨m, by omega, by go_num, by rw [HS.out]; refine congrArg _ ?_; simp; omega⟩
        case measure => simp [intOf]
theorem len_at (n x k : Nat) (hx : x < 2 ^ n) (hk : k < n) (h : ∀ j, j < k → x.testBit (n - 1 - j) = false) (hb : x.testBit (n - 1 - k) = true) : len x = n - k := by
  apply len_eq
  refine ⟨?_, Or.inr (by rw [show n - k - 1 = n - 1 - k by omega]; exact hb)⟩
  apply Nat.lt_pow_two_of_testBit
  intro i hi
  by_cases hin : i < n
  · have := h (n - 1 - i) (by omega)
    rw [show n - 1 - (n - 1 - i) = i by omega] at this
    exact this
  · exact testBit_hi n x i hx (by omega)
theorem len_none (n x k : Nat) (hx : x < 2 ^ n) (hk : k = n) (h : ∀ j, j < k → x.testBit (n - 1 - j) = false) : len x = 0 := by
  have : x = 0 := eq_of_bits n x 0 hx (Nat.two_pow_pos n) fun i hi => by
    have := h (n - 1 - i) (by omega)
    rw [show n - 1 - (n - 1 - i) = i by omega] at this
    rw [this]; simp
  rw [this]; simp [len]
set_option maxHeartbeats 1000000 in
theorem s_Leading (n x : Nat) (w : World) (hn : n ≤ 64) (hn0 : 0 < n) (hx : x < 2 ^ n) (hx64 : x < 18446744073709551616) :
    Calls Try.prog 27 #[.int .i64 n, .int .u64 x] w fun e w' => e = .returned (.int .i64 ((n : Int) - (len x : Int))) ∧ Below w.heap.size w w' := by
  have HX := Lib.hid hx
  have HX6 := Lib.hid hx64
  clear hx hx64
  go_enter Try.func27, Try.ntmps27
  go_wp2_with (go_at_call 32; refine (s_Of x n _ hn HX6.out).mono ?_; intro e w1 hR; obtain ⟨g, cap, rfl, hg1, hg2, hcap, hl, hb⟩ := RowB.shape hR hn0)
  go_loop [6] (fun i => ∃ k : Nat, k ≤ n ∧ i = .int .i64 k ∧ ∀ j, j < k → x.testBit (n - 1 - j) = false) (fun i => n - (intOf i).toNat)
  case atStart => exact ⟨0, Nat.zero_le _, rfl, fun j hj => absurd hj (by omega)⟩
  case round =>
    obtain ⟨k, hk, rfl, hz⟩ := hrel
    have HZ := Lib.hid hz
    clear hz hR
    by_cases hlt : k < n
    · have hcell := hl (n - 1 - k) (by omega)
      cases hf : x.testBit (n - 1 - k)
      · rw [hf] at hcell
        go_wp2
        go_round
        case rel => exact ⟨k + 1, by omega, by go_num, fun j hj => by by_cases e : j = k; (subst e; exact hf); exact HZ.out j (by omega)⟩
        case measure => simp [intOf]; omega
      · rw [hf] at hcell
        have ht := len_at n x k HX.out hlt HZ.out hf
        have HT := Lib.hid ht
        clear hf ht
        go_wp2
        go_ret
        exact ⟨ret_int (by rw [HT.out]; omega), hb⟩
    · have hd : decide (k < n) = false := by simpa using hlt
      have ht := len_none n x k HX.out (by omega) HZ.out
      have hkn : k = n := by omega
      have HT := Lib.hid ht
      have HK := Lib.hid hkn
      clear ht hkn
      go_wp2
      go_ret
      exact ⟨ret_int (by rw [HT.out, HK.out]; omega), hb⟩
set_option maxHeartbeats 1000000 in
theorem s_Reversed (n x : Nat) (w : World) (hn : n ≤ 64) (hn0 : 0 < n) (hx64 : x < 18446744073709551616) :
    Calls Try.prog 23 #[.int .i64 n, .int .u64 x] w fun e w' => e = .returned (.int .u64 ((rev n x : Nat) : Int)) ∧ Below w.heap.size w w' := by
  obtain ⟨i0, hi, hz0, hz1, hz2⟩ := info_parts infoB
  have HX6 := Lib.hid hx64
  clear hx64
  go_enter Try.func23, Try.ntmps23
  go_wp2_with (go_at_call 32; refine (s_Of x n _ hn HX6.out).mono ?_; intro e w1 hR; obtain ⟨g, cap, rfl, hg1, hg2, hcap, hl, hb⟩ := RowB.shape hR hn0; clear hR)
  go_loopw [6, 13] (fun v i wr => ∃ k : Nat, k ≤ n ∧ i = .int .i64 k ∧ wr.ownsRow w1.heap.size 4 1 v k ((fbits k (fun j => x.testBit (n - 1 - j))).map Value.bool) ∧ Below w1.heap.size w1 wr)
    (fun _ i _ => n - (intOf i).toNat)
  case atStart => exact ⟨0, Nat.zero_le _, rfl, World.ownsRow_nil _ _ _ _, Below.refl _ _⟩
  case round =>
    obtain ⟨k, hk, rfl, hown, hnx⟩ := hrel
    have hsz := hnx.size
    by_cases hlt : k < n
    · have hcell := (hl.below hnx hg2) (n - 1 - k) (by omega)
      go_wp2_with (first
        | (at_builtin; refine wpList_append_own _ rfl _ _ 39 rfl w1.heap.size 4 i0 (.bool false) 1 1 Try.underlying39 hi hz0 hz1 hz2 rfl (by decide) _ _ _ rfl (hown.alloc _) ⟨wr.heap.size, 0, none⟩ 1 1 [.bool (x.testBit (n - 1 - k))] rfl rfl ?c1 ?c2 ?c3 ?c4 ?c5 ?_))
      case c1 =>
        intro j u hj
        match j, hj with
        | 0, hj => simp at hj; subst hj; simp [Addr.add]
      case c2 => intro u hu; simp at hu; subst hu; rfl
      case c3 => unfold maxLen; omega
      case c4 => omega
      case c5 => simp; omega
      intro v' w2 hown' hgrow _
      have R := below_push hsz hnx hown hgrow
      have O : w2.ownsRow w1.heap.size 4 1 v' (k + 1) ((fbits (k + 1) (fun j => x.testBit (n - 1 - j))).map Value.bool) := by
        rw [fbits_succ, List.map_append]; exact hown'
      clear hown' hgrow hown hnx hcell
      go_wp2
      go_roundw
      case rel => exact ⟨k + 1, by omega, by go_num, O, R⟩
      case measure => simp [intOf]; omega
    · have hkn : k = n := by omega
      subst hkn
      obtain ⟨g2, cap2, rfl, hg3, hg4, hcap2, hl2⟩ := own_shape hown hn0
      go_wp2_with (go_at_call 34; refine (s_Value g2 k cap2 _ _ hn hl2).mono ?_; rintro e w' ⟨rfl, rfl⟩)
      go_ret
      exact ⟨rfl, below_two hb hnx⟩
theorem infoI : (Try.prog.info? 3).map (fun i => (i.zero, i.size, i.bytes)) = some (some (.int .i64 0), 1, 8) := by kernel_rfl
def placesV (l : List Nat) : List Value := l.map (fun m : Nat => Value.int .i64 (m : Int))
/-- a new row of places -/
def RowI (l : List Nat) (w : World) (e : Ending) (w' : World) : Prop :=
  ∃ v, e = .returned v ∧ w'.ownsRow w.heap.size 3 1 v l.length (placesV l) ∧ Below w.heap.size w w'
theorem own_mono {w : World} {B B' : Nat} {E : TypeId} {v : Value} {n : Nat} {xs : List Value} (h : w.ownsRow B E 1 v n xs) (hB : B' ≤ B) : w.ownsRow B' E 1 v n xs := by
  refine ⟨h.1, ?_⟩
  rcases h.2 with h2 | ⟨g, cap, cur, h3, h4, h5⟩
  · exact .inl h2
  · exact .inr ⟨g, cap, cur, h3, Nat.le_trans hB h4, h5⟩
theorem own_slice {w : World} {B : Nat} {E : TypeId} {v : Value} {n : Nat} {xs : List Value} (h : w.ownsRow B E 1 v n xs) : ∃ a cap, v = .slice a n cap := by
  rcases h.2 with ⟨h2, h3⟩ | ⟨g, cap, cur, h3, h4, h5⟩
  · subst h3; exact ⟨none, 0, h2⟩
  · exact ⟨_, _, h3⟩
set_option maxHeartbeats 1000000 in
theorem s_Ones (n x : Nat) (w : World) (hn : n ≤ 64) (hn0 : 0 < n) (hx64 : x < 18446744073709551616) :
    Calls Try.prog 29 #[.int .i64 n, .int .u64 x] w (RowI (onesL n x) w) := by
  obtain ⟨i0, hi, hz0, hz1, hz2⟩ := info_parts infoI
  have HX6 := Lib.hid hx64
  clear hx64
  go_enter Try.func29, Try.ntmps29
  go_wp2_with (go_at_call 32; refine (s_Of x n _ hn HX6.out).mono ?_; intro e w1 hR; obtain ⟨g, cap, rfl, hg1, hg2, hcap, hl, hb⟩ := RowB.shape hR hn0; clear hR)
  go_loopw [5, 12] (fun v i wr => ∃ k : Nat, k ≤ n ∧ i = .int .i64 k ∧ wr.ownsRow w1.heap.size 3 1 v (onesL k x).length (placesV (onesL k x)) ∧ Below w1.heap.size w1 wr)
    (fun _ i _ => n - (intOf i).toNat)
  case atStart => exact ⟨0, Nat.zero_le _, rfl, World.ownsRow_nil _ _ _ _, Below.refl _ _⟩
  case round =>
    obtain ⟨k, hk, rfl, hown, hnx⟩ := hrel
    have hsz := hnx.size
    by_cases hlt : k < n
    · have hcell := (hl.below hnx hg2) k hlt
      have hol := onesL_le k x
      cases hf : x.testBit k
      · rw [hf] at hcell
        have O : onesL (k + 1) x = onesL k x := by rw [onesL_succ, hf]; simp
        rw [← O] at hown
        have HO := Lib.hid hown
        clear hf O hol
        go_wp2
        go_roundw
        case rel => exact ⟨k + 1, by omega, by go_num, HO.out, hnx⟩
        case measure => simp [intOf]; omega
      · rw [hf] at hcell
        have HF := Lib.hid hf
        clear hf
        go_wp2_with (first
          | (at_builtin; refine wpList_append_own _ rfl _ _ 34 rfl w1.heap.size 3 i0 (.int .i64 0) 1 8 Try.underlying34 hi hz0 hz1 hz2 rfl (by decide) _ _ _ rfl (hown.alloc _) ⟨wr.heap.size, 0, none⟩ 1 1 [.int .i64 (k : Int)] rfl rfl ?c1 ?c2 ?c3 ?c4 ?c5 ?_))
        case c1 =>
          intro j u hj
          match j, hj with
          | 0, hj => simp at hj; subst hj; simp [Addr.add]
        case c2 => intro u hu; simp at hu; subst hu; rfl
        case c3 => unfold maxLen; omega
        case c4 => omega
        case c5 => simp; omega
        intro v' w2 hown' hgrow _
        have R := below_push hsz hnx hown hgrow
        have O : w2.ownsRow w1.heap.size 3 1 v' (onesL (k + 1) x).length (placesV (onesL (k + 1) x)) := by
          rw [onesL_succ, HF.out]; simpa [placesV] using hown'
        have HO := Lib.hid O
        clear hown' hgrow hown hnx hcell O hol
        go_wp2
        go_roundw
        case rel => exact ⟨k + 1, by omega, by go_num, HO.out, R⟩
        case measure => simp [intOf]; omega
    · have hkn : k = n := by omega
      subst hkn
      go_wp2
      go_ret
      exact ⟨_, rfl, own_mono hown hb.size, below_two hb hnx⟩
theorem s_Mod (k : Int) (n : Nat) (w : World) (hk0 : -9223372036854775808 ≤ k) (hk1 : k ≤ 9223372036854775807) (hn : n ≤ 64) (hn0 : 0 < n) :
    Calls Try.prog 33 #[.int .i64 k, .int .i64 n] w fun e w' => e = .returned (.int .i64 (k % (n : Int))) ∧ w = w' := by
  have hz : ((n : Int) == 0) = false := by simp; omega
  by_cases h0 : 0 ≤ k
  · have hm : 0 ≤ k % (n : Int) := Int.emod_nonneg _ (by omega)
    have hm2 : k % (n : Int) < n := Int.emod_lt_of_pos _ (by omega)
    go_enter Try.func33, Try.ntmps33
    go_wp2
    go_ret
    exact ⟨rfl, rfl⟩
  · have e : k.tmod (n : Int) = -((-k) % (n : Int)) := by
      have := Int.neg_tmod (-k) n
      have t := Int.tmod_eq_emod_of_nonneg (a := -k) (b := (n : Int)) (by omega)
      rw [Int.neg_neg, t] at this
      exact this
    have hm : 0 ≤ (-k) % (n : Int) := Int.emod_nonneg _ (by omega)
    have hm2 : (-k) % (n : Int) < n := Int.emod_lt_of_pos _ (by omega)
    have key : k % (n : Int) = if (-k) % (n : Int) = 0 then 0 else (n : Int) - (-k) % (n : Int) := by
      have h := Int.mul_ediv_add_emod (-k) n
      generalize hq : (-k) / (n : Int) = q at h
      generalize (-k) % (n : Int) = r at h hm hm2 ⊢
      have hk : k = -r + (n : Int) * (-q) := by rw [Int.mul_neg]; omega
      rw [hk, Int.add_mul_emod_self_left]
      split
      · rename_i h0; subst h0; simp
      · rename_i h0
        have : -r = ((n : Int) - r) + (n : Int) * (-1) := by omega
        rw [this, Int.add_mul_emod_self_left, Int.emod_eq_of_lt (by omega) (by omega)]
    have HK := Lib.hid key
    clear key
    generalize (-k) % (n : Int) = r at e hm hm2 HK
    by_cases hr : r = 0
    · subst hr
      go_enter Try.func33, Try.ntmps33
      go_wp2
      go_ret
      exact ⟨ret_int (by rw [HK.out]; simp), rfl⟩
    · go_enter Try.func33, Try.ntmps33
      go_wp2
      go_ret
      exact ⟨ret_int (by rw [HK.out, if_neg hr]; omega), rfl⟩
theorem s_one (b : Bool) (w : World) : Calls Try.prog 50 #[.bool b] w fun e w' => e = .returned (.int .i64 ((b.toNat : Nat) : Int)) ∧ w = w' := by
  cases b
  · go_enter Try.func50, Try.ntmps50
    go_wp2
    go_ret
    exact ⟨rfl, rfl⟩
  · go_enter Try.func50, Try.ntmps50
    go_wp2
    go_ret
    exact ⟨rfl, rfl⟩
theorem s_At (g n cap m : Nat) (f : Nat → Bool) (w : World) (_hn : n ≤ 70) (_hm : m ≤ 70) (_hcap : n ≤ cap) (hl : LiesB w g n f) :
    Calls Try.prog 51 #[.slice (some ⟨g, 0, none⟩) n cap, .int .i64 m] w fun e w' => e = .returned (.bool (decide (m < n) && f m)) ∧ w = w' := by
  by_cases hlt : m < n
  · have hcell := hl m hlt
    have e : (decide (m < n) && f m) = f m := by simp [hlt]
    rw [e]
    clear e
    generalize f m = b at hcell ⊢
    go_enter Try.func51, Try.ntmps51
    go_wp2
    go_ret
    exact ⟨rfl, rfl⟩
  · have hd : decide (m < n) = false := by simpa using hlt
    have e : (decide (m < n) && f m) = false := by simp [hlt]
    rw [e]
    clear e
    go_enter Try.func51, Try.ntmps51
    go_wp2
    go_ret
    exact ⟨rfl, rfl⟩
/-- the bit of a row, false behind its end -/
def atB (n : Nat) (f : Nat → Bool) (m : Nat) : Bool := decide (m < n) && f m
theorem atB_val (n : Nat) (f : Nat → Bool) (m : Nat) : (ofBits n f).testBit m = atB n f m := testBit_ofBits n f m
/-- what Compare answers: its sign is the sign of the difference -/
def CmpPost (a b : Nat) (w : World) (e : Ending) (w' : World) : Prop := ∃ r : Int, e = .returned (.int .i64 r) ∧ (0 ≤ r ↔ b ≤ a) ∧ w = w'
set_option maxHeartbeats 1000000 in
theorem s_Compare (ga na ca gb nb cb : Nat) (fa fb : Nat → Bool) (w : World) (hna : na ≤ 66) (hnb : nb ≤ 66) (hca : na ≤ ca) (hcb : nb ≤ cb) (hla : LiesB w ga na fa) (hlb : LiesB w gb nb fb) :
    Calls Try.prog 38 #[.slice (some ⟨ga, 0, none⟩) na ca, .slice (some ⟨gb, 0, none⟩) nb cb] w (CmpPost (ofBits na fa) (ofBits nb fb) w) := by
  have HA := Lib.hid hla
  have HB := Lib.hid hlb
  clear hla hlb
  have fin : ∀ k, (∀ j, k ≤ j → atB na fa j = atB nb fb j) → k = 0 → ofBits na fa = ofBits nb fb := by
    intro k h hk
    apply Nat.eq_of_testBit_eq
    intro i
    rw [atB_val, atB_val]; exact h i (by omega)
  have more : ∀ m, (∀ j, m + 1 ≤ j → atB na fa j = atB nb fb j) → atB na fa m = true → atB nb fb m = false → ofBits nb fb < ofBits na fa := by
    intro m h h1 h2
    apply lt_of_bits _ _ m
    · rw [atB_val]; exact h2
    · rw [atB_val]; exact h1
    · intro j hj; rw [atB_val, atB_val]; exact h j hj
  have less : ∀ m, (∀ j, m + 1 ≤ j → atB na fa j = atB nb fb j) → atB na fa m = false → atB nb fb m = true → ofBits na fa < ofBits nb fb := by
    intro m h h1 h2
    apply lt_of_bits _ _ m
    · rw [atB_val]; exact h1
    · rw [atB_val]; exact h2
    · intro j hj; rw [atB_val, atB_val]; exact (h j hj).symm
  have FIN := Lib.hid fin
  have MORE := Lib.hid more
  have LESS := Lib.hid less
  clear fin more less
  have start : ∀ j, na ≤ j → nb ≤ j → atB na fa j = atB nb fb j := by
    intro j h1 h2
    have a : ¬ j < na := by omega
    have b : ¬ j < nb := by omega
    simp [atB, a, b]
  have START := Lib.hid start
  clear start
  by_cases hab : na < nb
  all_goals
    go_enter Try.func38, Try.ntmps38
    go_wp2
    go_loop [5] (fun i => ∃ k : Nat, k ≤ 66 ∧ i = .int .i64 ((k : Int) - 1) ∧ ∀ j, k ≤ j → atB na fa j = atB nb fb j) (fun i => (intOf i + 1).toNat)
    case atStart =>
      first
        | exact ⟨nb, by omega, rfl, fun j hj => START.out j (by omega) hj⟩
        | exact ⟨na, by omega, rfl, fun j hj => START.out j hj (by omega)⟩
    case round =>
      obtain ⟨k, hk, rfl, hz⟩ := hrel
      have HZ := Lib.hid hz
      clear hz
      by_cases h0 : k = 0
      · have HE := Lib.hid (FIN.out k HZ.out h0)
        subst h0
        go_wp2
        go_ret
        exact ⟨0, rfl, by rw [HE.out]; simp, rfl⟩
      · obtain ⟨m, rfl⟩ : ∃ m, k = m + 1 := ⟨k - 1, by omega⟩
        rw [show (((m + 1 : Nat) : Int) - 1) = (m : Int) by omega]
        have cA := s_At ga na ca m fa w (by omega) (by omega) hca HA.out
        have cB := s_At gb nb cb m fb w (by omega) (by omega) hcb HB.out
        rw [show (decide (m < na) && fa m) = atB na fa m from rfl] at cA
        rw [show (decide (m < nb) && fb m) = atB nb fb m from rfl] at cB
        cases hA : atB na fa m <;> cases hB : atB nb fb m <;> rw [hA] at cA <;> rw [hB] at cB
        · have CA := Lib.hid cA
          have CB := Lib.hid cB
          have EQ := Lib.hid (hA.trans hB.symm)
          clear cA cB hA hB
          go_wp2_with (first
            | (go_at_call 51; (first | (with_reducible refine CA.out.mono ?_) | (with_reducible refine CB.out.mono ?_)); rintro e w' ⟨rfl, rfl⟩)
            | (go_at_call 50; (refine (s_one _ _).mono ?_); rintro e w' ⟨rfl, rfl⟩))
          go_round
          case rel => exact ⟨m, by omega, by go_num, fun j hj => by by_cases e : j = m; (subst e; exact EQ.out); exact HZ.out j (by omega)⟩
          case measure => simp [intOf]
        · have CA := Lib.hid cA
          have CB := Lib.hid cB
          have LT := Lib.hid (LESS.out m HZ.out hA hB)
          clear cA cB hA hB
          go_wp2_with (first
            | (go_at_call 51; (first | (with_reducible refine CA.out.mono ?_) | (with_reducible refine CB.out.mono ?_)); rintro e w' ⟨rfl, rfl⟩)
            | (go_at_call 50; (refine (s_one _ _).mono ?_); rintro e w' ⟨rfl, rfl⟩))
          go_ret
          refine ⟨-1, rfl, ?_, rfl⟩
          have := LT.out
          constructor <;> intro h <;> omega
        · have CA := Lib.hid cA
          have CB := Lib.hid cB
          have LT := Lib.hid (MORE.out m HZ.out hA hB)
          clear cA cB hA hB
          go_wp2_with (first
            | (go_at_call 51; (first | (with_reducible refine CA.out.mono ?_) | (with_reducible refine CB.out.mono ?_)); rintro e w' ⟨rfl, rfl⟩)
            | (go_at_call 50; (refine (s_one _ _).mono ?_); rintro e w' ⟨rfl, rfl⟩))
          go_ret
          refine ⟨1, rfl, ?_, rfl⟩
          have := LT.out
          constructor <;> intro h <;> omega
        · have CA := Lib.hid cA
          have CB := Lib.hid cB
          have EQ := Lib.hid (hA.trans hB.symm)
          clear cA cB hA hB
          go_wp2_with (first
            | (go_at_call 51; (first | (with_reducible refine CA.out.mono ?_) | (with_reducible refine CB.out.mono ?_)); rintro e w' ⟨rfl, rfl⟩)
            | (go_at_call 50; (refine (s_one _ _).mono ?_); rintro e w' ⟨rfl, rfl⟩))
          go_round
          case rel => exact ⟨m, by omega, by go_num, fun j hj => by by_cases e : j = m; (subst e; exact EQ.out); exact HZ.out j (by omega)⟩
          case measure => simp [intOf]
end Go.Proofs.Ytbliimclmdigcaa
