/-
  Contracts of the reference, part two: lengths by comparing, turned and moved numbers, bytes, the width of a uint.
-/
import Derived.Test.YtbliimclmdigcaaSpec
namespace Go.Proofs.Ytbliimclmdigcaa
open Go.RowKit Go.Lathe
theorem two_pow_pred_half (k : Nat) : (2 ^ (k + 1) - 1) / 2 = 2 ^ k - 1 := by
  rw [Nat.pow_succ]; omega
set_option maxHeartbeats 1000000 in
theorem s_Width (w : World) : Calls Try.prog 17 #[] w fun e w' => e = .returned (.int .i64 64) ∧ w = w' := by
  go_enter Try.func17, Try.ntmps17
  go_wp2
  go_loop [1, 2] (fun n x => ∃ k : Nat, k ≤ 64 ∧ n = .int .i64 ((64 - k : Nat) : Int) ∧ x = .int .u64 ((2 ^ k - 1 : Nat) : Int)) (fun n _ => 64 - (intOf n).toNat)
  case atStart => exact ⟨64, Nat.le_refl _, rfl, rfl⟩
  case round =>
    obtain ⟨k, hk, rfl, rfl⟩ := hrel
    by_cases h0 : k = 0
    · subst h0
      go_wp2
      go_ret
      exact ⟨rfl, rfl⟩
    · obtain ⟨m, rfl⟩ : ∃ m, k = m + 1 := ⟨k - 1, by omega⟩
      have hp := two_pow_pred_half m
      have h1 : 1 ≤ 2 ^ (m + 1) - 1 := by
        have := Nat.two_pow_pos m
        rw [Nat.pow_succ]; omega
      have h2 : 2 ^ (m + 1) - 1 < 2 ^ 64 := by
        have := two_pow_le (m + 1) 64 hk
        have := Nat.two_pow_pos (m + 1)
        omega
      have HP := Lib.hid hp
      clear hp h0 h2
      generalize 2 ^ (m + 1) - 1 = y at h1 HP ⊢
      have hne : ((y : Int) != 0) = true := by simp; omega
      obtain ⟨c, hc, hc2⟩ : ∃ c, c = 64 - (m + 1) ∧ c ≤ 63 := ⟨_, rfl, by omega⟩
      rw [← hc]
      have HC := Lib.hid hc
      clear hc
      go_wp2
      go_round
      case rel => exact ⟨m, by omega, by have := HC.out; go_num, by rw [← HP.out]; go_num⟩
      case measure => simp [intOf]; omega
theorem made_bools (k : Nat) (h : Nat → Bool) (hh : ∀ j, j < k → h j = false) : (madeCells (Value.bool false).cells (k * 1)).toList = (fbits k h).map Value.bool := by
  have e : (Value.bool false).cells = #[Value.bool false] := rfl
  rw [e, Nat.mul_one, toList_madeCells_one]
  apply List.ext_getElem?
  intro i
  by_cases hi : i < k
  · rw [List.getElem?_map, fbits_get? k h i hi, hh i hi]
    simp [hi]
  · rw [List.getElem?_eq_none (by simp; omega), List.getElem?_eq_none (by simp [length_fbits]; omega)]
theorem pow_row {w : World} {B k : Nat} {v : Value} (h : w.ownsRow B 4 1 v (k + 1) ((madeCells (Value.bool false).cells (k * 1)).toList ++ [.bool true])) :
    w.ownsRow B 4 1 v (k + 1) ((fbits (k + 1) (fun j => decide (j = k))).map Value.bool) := by
  have e : (madeCells (Value.bool false).cells (k * 1)).toList ++ [.bool true] = (fbits (k + 1) (fun j => decide (j = k))).map Value.bool := by
    rw [made_bools k (fun j => decide (j = k)) (fun j hj => by simp; omega), fbits_succ, List.map_append]
    simp
  rw [← e]; exact h
theorem pow_bits (k : Nat) : ofBits (k + 1) (fun j => decide (j = k)) = 2 ^ k := by
  apply eq_of_bits (k + 1) _ _ (ofBits_lt _ _) (two_pow_lt _ _ (by omega))
  intro i hi
  rw [testBit_ofBits, Nat.testBit_two_pow]
  by_cases h : i = k
  · subst h; simp
  · have : ¬ k = i := fun e => h e.symm
    simp [h, this]
set_option maxHeartbeats 1000000 in
theorem s_Length (n x : Nat) (w : World) (hn : n ≤ 64) (hn0 : 0 < n) (hx : x < 2 ^ n) (hx64 : x < 18446744073709551616) :
    Calls Try.prog 25 #[.int .i64 n, .int .u64 x] w fun e w' => e = .returned (.int .i64 (len x)) ∧ Below w.heap.size w w' := by
  obtain ⟨i0, hi, hz0, hz1, hz2⟩ := info_parts infoB
  have hlen : len x ≤ n := len_le n x hx
  have HX6 := Lib.hid hx64
  have HV := Lib.hid (ofBits_testBit n x hx)
  have HL := Lib.hid (lenIs_len x)
  clear hx64 hx
  go_enter Try.func25, Try.ntmps25
  go_wp2_with (go_at_call 32; refine (s_Of x n _ hn HX6.out).mono ?_; intro e w1 hR; obtain ⟨g, cap, rfl, hg1, hg2, hcap, hl, hb⟩ := RowB.shape hR hn0; clear hR)
  go_loopw [6] (fun i wr => ∃ k : Nat, k ≤ len x ∧ i = .int .i64 k ∧ Below w1.heap.size w1 wr) (fun i _ => n + 1 - (intOf i).toNat)
  case atStart => exact ⟨0, Nat.zero_le _, rfl, Below.refl _ _⟩
  case round =>
    obtain ⟨k, hk, rfl, hnx⟩ := hrel
    have hsz := hnx.size
    have hb2 : i0.bytes * k ≤ 281474976710656 := by rw [hz2]; omega
    by_cases hge : 2 ^ k ≤ x
    · have HLT : k < len x := by
        apply Nat.lt_of_not_le
        intro hle
        have h1 := HL.out.1
        have := two_pow_le _ _ hle
        omega
      have LTE : ∀ r : Int, (0 ≤ r ↔ 2 ^ k ≤ x) → 0 ≤ r := fun _ h => h.2 hge
      have H1 := Lib.hid HLT
      have H2 := Lib.hid LTE
      clear hge HLT LTE
      go_wp2_with (first
        | (at_make; refine wpList_make_full _ rfl _ _ 39 rfl w1.heap.size 4 i0 (.bool false) 1 Try.underlying39 hi hz0 hz1 _ _ _ _ k rfl rfl rfl rfl hb2 (by unfold maxLen; omega) hsz ?_; intro w2 hown2 hgrow2)
        | (at_builtin; refine wpList_append_own _ rfl _ _ 39 rfl w1.heap.size 4 i0 (.bool false) 1 1 Try.underlying39 hi hz0 hz1 hz2 rfl (by decide) _ _ _ rfl (hown2.alloc _) ⟨w2.heap.size, 0, none⟩ 1 1 [.bool true] rfl rfl (by intro j u hj; match j, hj with | 0, hj => simp at hj; subst hj; simp [Addr.add]) (by intro u hu; simp at hu; subst hu; rfl) (by unfold maxLen; omega) (by omega) (by have := hgrow2.size; simp; omega) ?_; intro v' w3 hown3 hgrow3 _)
        | (go_at_call 38; obtain ⟨g3, cap3, rfl, hg3, hg4, hcap3, hl3⟩ := own_shape (pow_row hown3) (by omega); refine (s_Compare g n cap g3 (k + 1) cap3 x.testBit _ _ (by omega) (by omega) hcap hcap3 (hl.below (((hnx.grown hgrow2 hsz (fun k hk => by cases hk)).alloc (by have := hgrow2.size; omega) _).grown hgrow3 (by have := hgrow2.size; simp; omega) (fun k hk => (hown2.lt k hk).1)) hg2) hl3).mono ?_; rintro e w4 ⟨r, rfl, hr, rfl⟩; rw [HV.out, pow_bits] at hr; have hrr : 0 ≤ r := H2.out r hr; clear hr))
      have R := ((hnx.grown hgrow2 hsz (fun k hk => by cases hk)).alloc (by have := hgrow2.size; omega) (.cells #[Value.bool true] 4)).grown hgrow3 (by have := hgrow2.size; simp; omega) (fun k hk => (hown2.lt k hk).1)
      have hkl := H1.out
      go_roundw
      case rel => exact ⟨k + 1, by omega, by go_num, R⟩
      case measure => simp [intOf]; omega
    · have HEQ : k = len x := by
        apply Nat.le_antisymm hk
        apply Nat.le_of_not_lt
        intro hlt
        have := lenIs_ge _ _ HL.out (by omega)
        have := two_pow_le k (len x - 1) (by omega)
        omega
      have LTE : ∀ r : Int, (0 ≤ r ↔ 2 ^ k ≤ x) → r < 0 := fun r h => by
        apply Int.lt_of_not_ge
        intro hr
        exact hge (h.1 hr)
      have H1 := Lib.hid HEQ
      have H2 := Lib.hid LTE
      clear hge HEQ LTE
      go_wp2_with (first
        | (at_make; refine wpList_make_full _ rfl _ _ 39 rfl w1.heap.size 4 i0 (.bool false) 1 Try.underlying39 hi hz0 hz1 _ _ _ _ k rfl rfl rfl rfl hb2 (by unfold maxLen; omega) hsz ?_; intro w2 hown2 hgrow2)
        | (at_builtin; refine wpList_append_own _ rfl _ _ 39 rfl w1.heap.size 4 i0 (.bool false) 1 1 Try.underlying39 hi hz0 hz1 hz2 rfl (by decide) _ _ _ rfl (hown2.alloc _) ⟨w2.heap.size, 0, none⟩ 1 1 [.bool true] rfl rfl (by intro j u hj; match j, hj with | 0, hj => simp at hj; subst hj; simp [Addr.add]) (by intro u hu; simp at hu; subst hu; rfl) (by unfold maxLen; omega) (by omega) (by have := hgrow2.size; simp; omega) ?_; intro v' w3 hown3 hgrow3 _)
        | (go_at_call 38; obtain ⟨g3, cap3, rfl, hg3, hg4, hcap3, hl3⟩ := own_shape (pow_row hown3) (by omega); refine (s_Compare g n cap g3 (k + 1) cap3 x.testBit _ _ (by omega) (by omega) hcap hcap3 (hl.below (((hnx.grown hgrow2 hsz (fun k hk => by cases hk)).alloc (by have := hgrow2.size; omega) _).grown hgrow3 (by have := hgrow2.size; simp; omega) (fun k hk => (hown2.lt k hk).1)) hg2) hl3).mono ?_; rintro e w4 ⟨r, rfl, hr, rfl⟩; rw [HV.out, pow_bits] at hr; have hrr : r < 0 := H2.out r hr; clear hr))
      have R := ((hnx.grown hgrow2 hsz (fun k hk => by cases hk)).alloc (by have := hgrow2.size; omega) (.cells #[Value.bool true] 4)).grown hgrow3 (by have := hgrow2.size; simp; omega) (fun k hk => (hown2.lt k hk).1)
      go_ret
      exact ⟨ret_int (by rw [← H1.out]), below_two hb R⟩
end Go.Proofs.Ytbliimclmdigcaa
