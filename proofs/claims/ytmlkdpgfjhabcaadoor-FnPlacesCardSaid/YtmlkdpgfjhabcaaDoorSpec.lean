/-
  Contracts of the reference (package spec): the lists of bits, their values, and what the reference reckons out of them.
-/
import Derived.Test.YtmlkdpgfjhabcaaDoorLib
import Derived.Test.YtmlkdpgfjhabcaaDoorMore
import Derived.LoopTactic
import Derived.OwnWalk
namespace Go.Proofs.YtmlkdpgfjhabcaaDoor
open Go.RowKit Go.Lathe
theorem infoB : (Tryd.prog.info? 4).map (fun i => (i.zero, i.size, i.bytes)) = some (some (.bool false), 1, 1) := by kernel_rfl
/-- a new row of bools -/
def RowB (n : Nat) (f : Nat → Bool) (w : World) (e : Ending) (w' : World) : Prop :=
  ∃ v, e = .returned v ∧ w'.ownsRow w.heap.size 4 1 v n ((fbits n f).map Value.bool) ∧ Below w.heap.size w w'
theorem below_push {B : Nat} {w wr w1 : World} {o : Obj} {E : TypeId} {v : Value} {n : Nat} {xs : List Value} (hB : B ≤ wr.heap.size) (hnx : Below B w wr) (hown : wr.ownsRow B E 1 v n xs) (hg : (wr.alloc o).grownBy w1 v.ownBlock) : Below B w w1 :=
  (hnx.alloc hB o).grown hg (by simp; omega) (fun k hk => (hown.lt k hk).1)
/-- a row of bools that lies in memory -/
def LiesB (w : World) (g n : Nat) (f : Nat → Bool) : Prop := ∀ j, j < n → w.cell? ⟨g, j, none⟩ = some (.bool (f j))
def VV (n : Nat) (f : Nat → Bool) (k : Nat) : Nat := valL ((fbits n f).drop k)
theorem VV_top (n : Nat) (f : Nat → Bool) : VV n f n = 0 := by
  unfold VV; rw [List.drop_eq_nil_of_le (by rw [length_fbits]; exact Nat.le_refl _)]; rfl
theorem VV_zero (n : Nat) (f : Nat → Bool) : VV n f 0 = ofBits n f := by unfold VV; rw [List.drop_zero, valL_fbits]
theorem VV_step (n : Nat) (f : Nat → Bool) (m : Nat) (h : m < n) : VV n f m = (f m).toNat + 2 * VV n f (m + 1) := by
  unfold VV; rw [valL_drop _ _ (by rw [length_fbits]; exact h), fbits_getD n f m h]
theorem VV_lt (n : Nat) (f : Nat → Bool) (m : Nat) (hn : n ≤ 64) : VV n f (m + 1) < 9223372036854775808 := by
  have h := valL_drop_lt (fbits n f) (m + 1)
  rw [length_fbits] at h
  have := two_pow_le (n - (m + 1)) 63 (by omega)
  rw [show (2 : Nat) ^ 63 = 9223372036854775808 from rfl] at this
  unfold VV; omega

theorem RowB.shape {n : Nat} {f : Nat → Bool} {w w' : World} {e : Ending} (h : RowB n f w e w') (hn : 0 < n) :
    ∃ g cap, e = .returned (.slice (some ⟨g, 0, none⟩) n cap) ∧ w.heap.size ≤ g ∧ g < w'.heap.size ∧ n ≤ cap ∧ LiesB w' g n f ∧ Below w.heap.size w w' := by
  obtain ⟨v, rfl, ho, hb⟩ := h
  rcases ho.2 with ⟨rfl, h0⟩ | ⟨g, cap, cur, rfl, hg, hh, hc, _⟩
  · omega
  · refine ⟨g, cap, rfl, hg, (ho.lt g rfl).2, hc, ?_, hb⟩
    intro j hj
    have := ho.cells (g := g) rfl j (.bool (f j)) (by rw [List.getElem?_map, fbits_get? n f j hj]; rfl)
    have e : (⟨g, 0, none⟩ : Addr).add j = ⟨g, j, none⟩ := by unfold Addr.add; split <;> simp_all
    rw [e] at this
    exact this
theorem own_shape {w : World} {B n : Nat} {f : Nat → Bool} {v : Value} (ho : w.ownsRow B 4 1 v n ((fbits n f).map Value.bool)) (hn : 0 < n) :
    ∃ g cap, v = .slice (some ⟨g, 0, none⟩) n cap ∧ B ≤ g ∧ g < w.heap.size ∧ n ≤ cap ∧ LiesB w g n f := by
  rcases ho.2 with ⟨rfl, h0⟩ | ⟨g, cap, cur, rfl, hg, hh, hc, _⟩
  · omega
  · refine ⟨g, cap, rfl, hg, (ho.lt g rfl).2, hc, ?_⟩
    intro j hj
    have := ho.cells (g := g) rfl j (.bool (f j)) (by rw [List.getElem?_map, fbits_get? n f j hj]; rfl)
    have e : (⟨g, 0, none⟩ : Addr).add j = ⟨g, j, none⟩ := by unfold Addr.add; split <;> simp_all
    rw [e] at this
    exact this
theorem LiesB.below {w w' : World} {g n B : Nat} {f : Nat → Bool} (h : LiesB w g n f) (hb : Below B w w') (hg : g < B) : LiesB w' g n f := fun j hj => (hb.cell hg).trans (h j hj)
theorem below_two {w w1 w2 : World} (h1 : Below w.heap.size w w1) (h2 : Below w1.heap.size w1 w2) : Below w.heap.size w w2 := h1.trans (h2.mono h1.size)
set_option maxHeartbeats 1000000 in
theorem s_Of (x n : Nat) (w : World) (hn : n ≤ 64) (hx : x < 18446744073709551616) :
    Calls Tryd.prog 25 #[.int .u64 x, .int .i64 n] w (RowB n x.testBit w) := by
  obtain ⟨i0, hi, hz0, hz1, hz2⟩ := info_parts infoB
  go_enter Tryd.func25, Tryd.ntmps25
  go_wp2
  go_loopw [0, 5, 7] (fun xv v i wr => ∃ k : Nat, k ≤ n ∧ i = .int .i64 k ∧ xv = .int .u64 ((x / 2 ^ k : Nat) : Int) ∧ wr.ownsRow w.heap.size 4 1 v k ((fbits k x.testBit).map Value.bool) ∧ Below w.heap.size w wr)
    (fun _ _ i _ => n - (intOf i).toNat)
  case atStart => exact ⟨0, Nat.zero_le _, rfl, by simp, World.ownsRow_nil _ _ _ _, Below.refl _ _⟩
  case round =>
    obtain ⟨k, hk, rfl, rfl, hown, hnx⟩ := hrel
    have hb := bit_div x k
    have hy : x / 2 ^ k < 18446744073709551616 := Nat.lt_of_le_of_lt (Nat.div_le_self _ _) hx
    have hd := div_pow_succ x k
    obtain ⟨y, hyy⟩ : ∃ y, y = x / 2 ^ k := ⟨_, rfl⟩
    rw [← hyy] at hb hy hd ⊢
    have hbI : ((y : Int) % 2 == 1) = x.testBit k := by
      rw [← hb, Bool.eq_iff_iff]; simp only [beq_iff_eq]; omega
    clear hb
    have hsz := hnx.size
    have HD := Lib.hid hd
    have HY := Lib.hid hyy
    clear hd hyy hx
    by_cases hlt : k < n
    · go_wp2_with (first
        | (at_builtin; refine wpList_append_own _ rfl _ _ 39 rfl w.heap.size 4 i0 (.bool false) 1 1 Tryd.underlying39 hi hz0 hz1 hz2 rfl (by decide) _ _ _ rfl (hown.alloc _) ⟨wr.heap.size, 0, none⟩ 1 1 [.bool (x.testBit k)] rfl rfl ?c1 ?c2 ?c3 ?c4 ?c5 ?_))
      case c1 =>
        intro j u hj
        match j, hj with
        | 0, hj => simp at hj; subst hj; simp [Addr.add]
      case c2 => intro u hu; simp at hu; subst hu; rfl
      case c3 => unfold maxLen; omega
      case c4 => omega
      case c5 => simp; omega
      intro v' w1 hown' hgrow _
      have R := below_push hsz hnx hown hgrow
      have O : w1.ownsRow w.heap.size 4 1 v' (k + 1) ((fbits (k + 1) x.testBit).map Value.bool) := by
        rw [fbits_succ, List.map_append]; exact hown'
      clear hown' hgrow hown hnx
      go_wp2
      go_roundw
      case rel => exact ⟨k + 1, by omega, by go_num, by rw [← HD.out]; go_num, O, R⟩
      case measure => simp [intOf]; omega
    · have hkn : k = n := by omega
      go_wp2
      go_ret
      subst hkn
      exact ⟨_, rfl, hown, hnx⟩
theorem infoI : (Tryd.prog.info? 3).map (fun i => (i.zero, i.size, i.bytes)) = some (some (.int .i64 0), 1, 8) := by kernel_rfl
def placesV (l : List Nat) : List Value := l.map (fun m : Nat => Value.int .i64 (m : Int))
/-- a new row of places -/
def RowI (l : List Nat) (w : World) (e : Ending) (w' : World) : Prop :=
  ∃ v, e = .returned v ∧ w'.ownsRow w.heap.size 3 1 v l.length (placesV l) ∧ Below w.heap.size w w'
theorem own_mono {w : World} {B B' : Nat} {E : TypeId} {v : Value} {n : Nat} {xs : List Value} (h : w.ownsRow B E 1 v n xs) (hB : B' ≤ B) : w.ownsRow B' E 1 v n xs := by
  refine ⟨h.1, ?_⟩
  rcases h.2 with h2 | ⟨g, cap, cur, h3, h4, h5⟩
  · exact .inl h2
  · exact .inr ⟨g, cap, cur, h3, Nat.le_trans hB h4, h5⟩
theorem own_slice {w : World} {B : Nat} {E : TypeId} {v : Value} {n : Nat} {xs : List Value} (h : w.ownsRow B E 1 v n xs) : ∃ a cap, v = .slice a n cap := by
  rcases h.2 with ⟨h2, h3⟩ | ⟨g, cap, cur, h3, h4, h5⟩
  · subst h3; exact ⟨none, 0, h2⟩
  · exact ⟨_, _, h3⟩
set_option maxHeartbeats 1000000 in
theorem s_Ones (n x : Nat) (w : World) (hn : n ≤ 64) (hn0 : 0 < n) (hx64 : x < 18446744073709551616) :
    Calls Tryd.prog 10 #[.int .i64 n, .int .u64 x] w (RowI (onesL n x) w) := by
  obtain ⟨i0, hi, hz0, hz1, hz2⟩ := info_parts infoI
  have HX6 := Lib.hid hx64
  clear hx64
  go_enter Tryd.func10, Tryd.ntmps10
  go_wp2_with (go_at_call 25; refine (s_Of x n _ hn HX6.out).mono ?_; intro e w1 hR; obtain ⟨g, cap, rfl, hg1, hg2, hcap, hl, hb⟩ := RowB.shape hR hn0; clear hR)
  go_loopw [5, 12] (fun v i wr => ∃ k : Nat, k ≤ n ∧ i = .int .i64 k ∧ wr.ownsRow w1.heap.size 3 1 v (onesL k x).length (placesV (onesL k x)) ∧ Below w1.heap.size w1 wr)
    (fun _ i _ => n - (intOf i).toNat)
  case atStart => exact ⟨0, Nat.zero_le _, rfl, World.ownsRow_nil _ _ _ _, Below.refl _ _⟩
  case round =>
    obtain ⟨k, hk, rfl, hown, hnx⟩ := hrel
    have hsz := hnx.size
    by_cases hlt : k < n
    · have hcell := (hl.below hnx hg2) k hlt
      have hol := onesL_le k x
      cases hf : x.testBit k
      · rw [hf] at hcell
        have O : onesL (k + 1) x = onesL k x := by rw [onesL_succ, hf]; simp
        rw [← O] at hown
        have HO := Lib.hid hown
        clear hf O hol
        go_wp2
        go_roundw
        case rel => exact ⟨k + 1, by omega, by go_num, HO.out, hnx⟩
        case measure => simp [intOf]; omega
      · rw [hf] at hcell
        have HF := Lib.hid hf
        clear hf
        go_wp2_with (first
          | (at_builtin; refine wpList_append_own _ rfl _ _ 23 rfl w1.heap.size 3 i0 (.int .i64 0) 1 8 Tryd.underlying23 hi hz0 hz1 hz2 rfl (by decide) _ _ _ rfl (hown.alloc _) ⟨wr.heap.size, 0, none⟩ 1 1 [.int .i64 (k : Int)] rfl rfl ?c1 ?c2 ?c3 ?c4 ?c5 ?_))
        case c1 =>
          intro j u hj
          match j, hj with
          | 0, hj => simp at hj; subst hj; simp [Addr.add]
        case c2 => intro u hu; simp at hu; subst hu; rfl
        case c3 => unfold maxLen; omega
        case c4 => omega
        case c5 => simp; omega
        intro v' w2 hown' hgrow _
        have R := below_push hsz hnx hown hgrow
        have O : w2.ownsRow w1.heap.size 3 1 v' (onesL (k + 1) x).length (placesV (onesL (k + 1) x)) := by
          rw [onesL_succ, HF.out]; simpa [placesV] using hown'
        have HO := Lib.hid O
        clear hown' hgrow hown hnx hcell O hol
        go_wp2
        go_roundw
        case rel => exact ⟨k + 1, by omega, by go_num, HO.out, R⟩
        case measure => simp [intOf]; omega
    · have hkn : k = n := by omega
      subst hkn
      go_wp2
      go_ret
      exact ⟨_, rfl, own_mono hown hb.size, below_two hb hnx⟩
end Go.Proofs.YtmlkdpgfjhabcaaDoor
