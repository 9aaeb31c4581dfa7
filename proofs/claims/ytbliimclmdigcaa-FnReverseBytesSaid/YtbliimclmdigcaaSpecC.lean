/-
  Contracts of the reference, part three: moved numbers, bytes.
-/
import Derived.Test.YtbliimclmdigcaaSpecB
namespace Go.Proofs.Ytbliimclmdigcaa
open Go.RowKit Go.Lathe
/-- block G is a row of n bools -/
def HasRow (w : World) (G n : Nat) (f : Nat → Bool) : Prop := ∃ cur : Array Value, w.heap[G]? = some (.cells cur 4 (0, 0)) ∧ cur.toList = (fbits n f).map Value.bool
theorem size_row {n : Nat} {f : Nat → Bool} {cur : Array Value} (h : cur.toList = (fbits n f).map Value.bool) : cur.size = n := by
  have := congrArg List.length h
  simpa [length_fbits] using this
theorem HasRow.lies {w : World} {G n : Nat} {f : Nat → Bool} (h : HasRow w G n f) : LiesB w G n f := by
  obtain ⟨cur, h1, h2⟩ := h
  intro j hj
  rw [cell_of_row w G j cur 4 (0, 0) h1]
  have e : cur[j]? = cur.toList[j]? := by simp
  rw [e, h2, List.getElem?_map, fbits_get? n f j hj]; rfl
theorem HasRow.free {w : World} {G n : Nat} {f : Nat → Bool} (h : HasRow w G n f) (j : Nat) : w.frozen? ⟨G, j, none⟩ = false := by
  obtain ⟨cur, h1, h2⟩ := h
  simp [World.frozen?, h1]
theorem HasRow.set {w : World} {G n : Nat} {f : Nat → Bool} (h : HasRow w G n f) (i : Nat) (b : Bool) (hi : i < n) :
    HasRow (w.setCell ⟨G, i, none⟩ (.bool b)) G n (fun t => if t = i then b else f t) := by
  obtain ⟨cur, h1, h2⟩ := h
  refine ⟨cur.setIfInBounds i (.bool b), ?_, ?_⟩
  · simp [World.setCell, Array.getElem?_modify, h1]
  · apply List.ext_getElem?
    intro j
    have hs := size_row h2
    rw [Array.toList_setIfInBounds, List.getElem?_set]
    by_cases hj : j < n
    · rw [List.getElem?_map, fbits_get? n _ j hj]
      by_cases hji : i = j
      · subst hji; simp [hs, hi]
      · have : ¬ j = i := fun e => hji e.symm
        rw [if_neg hji, h2, List.getElem?_map, fbits_get? n f j hj]
        simp [this]
    · have hij : ¬ i = j := by omega
      rw [if_neg hij, h2, List.getElem?_eq_none (by simp [length_fbits]; omega), List.getElem?_eq_none (by simp [length_fbits]; omega)]
theorem HasRow.congr {w : World} {G n : Nat} {f h : Nat → Bool} (hr : HasRow w G n f) (hh : ∀ j, j < n → f j = h j) : HasRow w G n h := by
  obtain ⟨cur, h1, h2⟩ := hr
  exact ⟨cur, h1, by rw [h2, fbits_congr n f h hh]⟩
theorem hasRow_made {w : World} {B G n : Nat} {f : Nat → Bool} (h : w.ownsRow B 4 1 (.slice (some ⟨G, 0, none⟩) n n) n (madeCells (Value.bool false).cells (n * 1)).toList) (hf : ∀ j, j < n → f j = false) : HasRow w G n f := by
  rcases h.2 with ⟨h2, _⟩ | ⟨g, cap, cur, h3, h4, h5, h6, h7, h8, h9⟩
  · cases h2
  · cases h3
    refine ⟨cur, h5, ?_⟩
    rw [← made_bools n f hf, ← h9, List.take_of_length_le]
    simp; omega
theorem rot_index (n m k t : Nat) (hm : m < n) (hk : k < n) (ht : t < n) : (t + (n - m)) % n = k ↔ t = (k + m) % n := by
  by_cases h1 : t < m
  · rw [Nat.mod_eq_of_lt (show t + (n - m) < n by omega)]
    by_cases h2 : k + m < n
    · rw [Nat.mod_eq_of_lt h2]; omega
    · rw [show k + m = (k + m - n) + n by omega, Nat.add_mod_right, Nat.mod_eq_of_lt (by omega)]; omega
  · rw [show t + (n - m) = (t - m) + n by omega, Nat.add_mod_right, Nat.mod_eq_of_lt (by omega)]
    by_cases h2 : k + m < n
    · rw [Nat.mod_eq_of_lt h2]; omega
    · rw [show k + m = (k + m - n) + n by omega, Nat.add_mod_right, Nat.mod_eq_of_lt (by omega)]; omega
def rotF (n m x k : Nat) (t : Nat) : Bool := decide ((t + (n - m)) % n < k) && x.testBit ((t + (n - m)) % n)
theorem rotF_zero (n m x t : Nat) : rotF n m x 0 t = false := by simp [rotF]
theorem rotF_step (n m x k : Nat) (hm : m < n) (hk : k < n) (t : Nat) (ht : t < n) : (if t = (k + m) % n then x.testBit k else rotF n m x k t) = rotF n m x (k + 1) t := by
  have := rot_index n m k t hm hk ht
  unfold rotF
  by_cases h : t = (k + m) % n
  · have e := this.2 h
    rw [if_pos h, e]; simp
  · have e : ¬ (t + (n - m)) % n = k := fun e => h (this.1 e)
    rw [if_neg h]
    have : ((t + (n - m)) % n < k + 1) ↔ ((t + (n - m)) % n < k) := by omega
    simp [this]
theorem rotF_full (n m x : Nat) (hn : 0 < n) : ofBits n (rotF n m x n) = rotl n x m := by
  unfold rotl
  apply ofBits_congr
  intro i _
  unfold rotF
  simp [Nat.mod_lt _ hn]
set_option maxHeartbeats 1000000 in
theorem s_Rotated (n x : Nat) (k0 : Int) (w : World) (hn : n ≤ 64) (hn0 : 0 < n) (hx64 : x < 18446744073709551616) (hk0 : -9223372036854775808 ≤ k0) (hk1 : k0 ≤ 9223372036854775807) :
    Calls Try.prog 19 #[.int .i64 n, .int .u64 x, .int .i64 k0] w fun e w' => e = .returned (.int .u64 ((rotl n x (k0 % n).toNat : Nat) : Int)) ∧ Below w.heap.size w w' := by
  obtain ⟨i0, hi, hz0, hz1, hz2⟩ := info_parts infoB
  have hb2 : i0.bytes * n ≤ 281474976710656 := by rw [hz2]; omega
  have HX6 := Lib.hid hx64
  have hm0 : 0 ≤ k0 % (n : Int) := Int.emod_nonneg _ (by omega)
  have hm1 : k0 % (n : Int) < n := Int.emod_lt_of_pos _ (by omega)
  obtain ⟨m, hm⟩ := Int.eq_ofNat_of_zero_le hm0
  have cM := fun w => s_Mod k0 n w hk0 hk1 hn hn0
  rw [hm] at cM hm1 ⊢
  rw [show ((m : Int)).toNat = m from rfl]
  have hmn : m < n := by omega
  have CM := Lib.hid cM
  have hz : ((n : Int) == 0) = false := by simp; omega
  clear hx64 hm0 hm1 hm cM hk0 hk1
  go_enter Try.func19, Try.ntmps19
  go_wp2_with (first
    | (go_at_call 32; refine (s_Of x n _ hn HX6.out).mono ?_; intro e w1 hR; obtain ⟨g, cap, rfl, hg1, hg2, hcap, hl, hb⟩ := RowB.shape hR hn0; clear hR)
    | (at_make; refine wpList_make_full _ rfl _ _ 39 rfl w1.heap.size 4 i0 (.bool false) 1 Try.underlying39 hi hz0 hz1 _ _ _ _ n rfl rfl rfl rfl hb2 (by unfold maxLen; omega) (Nat.le_refl _) ?_; intro w2 hown2 hgrow2))
  go_loopw [18] (fun i wr => ∃ k : Nat, k ≤ n ∧ i = .int .i64 k ∧ HasRow wr w1.heap.size n (rotF n m x k) ∧ Below w1.heap.size w1 wr) (fun i _ => n - (intOf i).toNat)
  case atStart => exact ⟨0, Nat.zero_le _, rfl, hasRow_made hown2 (fun j _ => rotF_zero n m x j), (Below.refl _ _).grown hgrow2 (Nat.le_refl _) (fun k hk => by cases hk)⟩
  case round =>
    obtain ⟨k, hk, rfl, hrow, hnx⟩ := hrel
    have HROW := Lib.hid hrow
    clear hown2 hgrow2 hrow
    by_cases hlt : k < n
    · have hcell := (hl.below hnx hg2) k hlt
      have hi0 : (k + m) % n < n := Nat.mod_lt _ hn0
      have e1 : ((k : Int) + (m : Int)) % (n : Int) = (((k + m) % n : Nat) : Int) := by simp
      have HI := Lib.hid (rotF_step n m x k hmn hlt)
      generalize hidx : (k + m) % n = idx at e1 hi0 HI
      have hcell2 := HROW.out.lies idx hi0
      have hfr := HROW.out.free idx
      have HNX := Lib.hid hnx
      clear hidx hnx
      go_wp2_with (go_at_call 33; (with_reducible refine (CM.out _).mono ?_); rintro e w' ⟨rfl, rfl⟩)
      go_roundw
      case rel => exact ⟨k + 1, by omega, by go_num, (HROW.out.set idx _ hi0).congr (fun t ht => HI.out t ht), HNX.out.setCell (Nat.le_refl _) _⟩
      case measure => simp [intOf]; omega
    · have hkn : k = n := by omega
      subst hkn
      have hl2 := HROW.out.lies
      have C := Lib.hid (s_Value w1.heap.size k k _ wr hn hl2)
      have HF := Lib.hid (rotF_full k m x hn0)
      clear hl2
      go_wp2_with (go_at_call 34; (with_reducible refine C.out.mono ?_); rintro e w' ⟨rfl, rfl⟩)
      go_ret
      exact ⟨ret_int (by rw [HF.out]), below_two hb hnx⟩
/-- bit j of the number with its bytes turned round -/
def byF (m x : Nat) (j : Nat) : Bool := x.testBit (8 * m - 8 - 8 * (j / 8) + j % 8)
theorem fbits_add (a b : Nat) (f : Nat → Bool) : fbits (a + b) f = fbits a f ++ fbits b (fun j => f (a + j)) := by
  induction b with
  | zero => simp [fbits]
  | succ b ih => rw [← Nat.add_assoc, fbits_succ, ih, fbits_succ, List.append_assoc]
theorem byF_part (m x k : Nat) (hk : k < m) (j : Nat) (hj : j < 8) : x.testBit (8 * (m - 1 - k) + j) = byF m x (8 * k + j) := by
  unfold byF
  congr 1; omega
set_option maxHeartbeats 1000000 in
theorem s_BytesReversed (m x : Nat) (w : World) (hm : m ≤ 8) (hm0 : 0 < m) (hx64 : x < 18446744073709551616) :
    Calls Try.prog 21 #[.int .i64 ((8 * m : Nat) : Int), .int .u64 x] w fun e w' => e = .returned (.int .u64 ((revB (8 * m) x : Nat) : Int)) ∧ Below w.heap.size w w' := by
  obtain ⟨i0, hi, hz0, hz1, hz2⟩ := info_parts infoB
  have HX6 := Lib.hid hx64
  clear hx64
  obtain ⟨n, hn⟩ : ∃ n, n = 8 * m := ⟨_, rfl⟩
  rw [← hn]
  have hn1 : n ≤ 64 := by omega
  have hn0 : 0 < n := by omega
  have HN := Lib.hid hn
  have hn8 : 8 ≤ n := by omega
  clear hn
  go_enter Try.func21, Try.ntmps21
  go_wp2_with (go_at_call 32; refine (s_Of x n _ hn1 HX6.out).mono ?_; intro e w1 hR; obtain ⟨g, cap, rfl, hg1, hg2, hcap, hl, hb⟩ := RowB.shape hR hn0; clear hR)
  go_loopw [6, 7] (fun v i wr => ∃ k : Nat, k ≤ m ∧ i = .int .i64 ((n : Int) - 8 - 8 * (k : Int)) ∧ wr.ownsRow w1.heap.size 4 1 v (8 * k) ((fbits (8 * k) (byF m x)).map Value.bool) ∧ Below w1.heap.size w1 wr)
    (fun _ i _ => (intOf i + 8).toNat)
  case atStart => exact ⟨0, Nat.zero_le _, by go_num, World.ownsRow_nil _ _ _ _, Below.refl _ _⟩
  case round =>
    obtain ⟨k, hk, rfl, hown, hnx⟩ := hrel
    have hsz := hnx.size
    by_cases hlt : k < m
    · have hcells : ∀ j, j < 8 → wr.cell? ⟨g, 8 * (m - 1 - k) + j, none⟩ = some (.bool (byF m x (8 * k + j))) := by
        intro j hj
        rw [(hl.below hnx hg2) _ (by have := HN.out; omega), byF_part m x k hlt j hj]
      have HCS := Lib.hid hcells
      obtain ⟨p, hp⟩ : ∃ p, p = 8 * (m - 1 - k) := ⟨_, rfl⟩
      have hpn : ((n : Int) - 8 - 8 * (k : Int)) = (p : Int) := by have := HN.out; omega
      have hp8 : p + 8 ≤ n := by have := HN.out; omega
      rw [hpn]
      have HP := Lib.hid hp
      clear hcells hp hpn
      go_wp2_with (first
        | (at_builtin; refine wpList_append_own _ rfl _ _ 39 rfl w1.heap.size 4 i0 (.bool false) 1 1 Try.underlying39 hi hz0 hz1 hz2 rfl (by decide) _ _ _ rfl hown ⟨g, p, none⟩ (p + 8 - p) (cap - p) ((fbits 8 (fun j => byF m x (8 * k + j))).map Value.bool) rfl ?c0 ?c1 ?c2 ?c3 ?c4 ?c5 ?_))
      case c0 => simp [length_fbits]
      case c1 =>
        intro j u hj
        have hj8 : j < 8 := by
          have := (List.getElem?_eq_some_iff.1 hj).1
          simpa [length_fbits] using this
        rw [List.getElem?_map, fbits_get? 8 _ j hj8] at hj
        have e : (⟨g, p, none⟩ : Addr).add j = ⟨g, p + j, none⟩ := by unfold Addr.add; split <;> simp_all
        rw [e, HP.out, HCS.out j hj8]
        simpa using hj
      case c2 => intro u hu; rw [List.mem_map] at hu; obtain ⟨b, _, rfl⟩ := hu; rfl
      case c3 => unfold maxLen; omega
      case c4 => omega
      case c5 => omega
      intro v' w2 hown' hgrow _
      have R := hnx.grown hgrow hsz (fun k hk => (hown.lt k hk).1)
      have O : w2.ownsRow w1.heap.size 4 1 v' (8 * (k + 1)) ((fbits (8 * (k + 1)) (byF m x)).map Value.bool) := by
        rw [show 8 * (k + 1) = 8 * k + 8 by omega, fbits_add, List.map_append]; exact hown'
      have HPN : (p : Int) - 8 = (n : Int) - 8 - 8 * ((k + 1 : Nat) : Int) := by have := HN.out; have := HP.out; omega
      have HQ := Lib.hid HPN
      clear hown' hgrow hown hnx HPN
      go_wp2
      go_roundw
      case rel => exact ⟨k + 1, by omega, by rw [← HQ.out], O, R⟩
      case measure => simp [intOf]; omega
    · have hkm : k = m := by omega
      subst hkm
      have hneg : ((n : Int) - 8 - 8 * (k : Int)) = -8 := by have := HN.out; omega
      rw [hneg]
      have e8 : 8 * k = n := HN.out.symm
      rw [e8] at hown
      have HF : Hid (ofBits n (byF k x) = revB n x) := by
        have := HN.out
        subst this
        exact rfl
      obtain ⟨g2, cap2, rfl, hg3, hg4, hcap2, hl2⟩ := own_shape hown hn0
      have C := Lib.hid (s_Value g2 n cap2 _ wr hn1 hl2)
      clear hl2 hneg e8
      go_wp2_with (go_at_call 34; (with_reducible refine C.out.mono ?_); rintro e w' ⟨rfl, rfl⟩)
      go_ret
      exact ⟨ret_int (by rw [HF.out]), below_two hb hnx⟩
end Go.Proofs.Ytbliimclmdigcaa
