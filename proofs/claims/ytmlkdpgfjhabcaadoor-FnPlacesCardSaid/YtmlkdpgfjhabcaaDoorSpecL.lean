/-
  Contracts of slices.Reverse and slices.Equal (Go's library) at rows of integers.
-/
import Derived.Test.YtmlkdpgfjhabcaaDoorSpecI
import Derived.RegionTactic
namespace Go.Proofs.YtmlkdpgfjhabcaaDoor
open Go.RowKit Go.Lathe
theorem s_Equal_nil (a1 a2 : Option Addr) (c1 c2 : Nat) (w : World) :
    Calls Tryd.prog 11 #[.slice a1 0 c1, .slice a2 0 c2] w fun e w' => e = .returned (.bool true) ∧ w = w' := by
  go_enter Tryd.func11, Tryd.ntmps11
  go_wp2
  go_loop [13] (fun i => i = .int .i64 0) (fun _ => 0)
  case atStart => rfl
  case round =>
    subst hrel
    go_wp2
    go_ret
    exact ⟨rfl, rfl⟩
set_option maxHeartbeats 1000000 in
theorem s_Equal (g1 g2 n c1 c2 : Nat) (l : List Nat) (w : World) (hn : n = l.length) (_hn : n ≤ 64) (h1 : LiesI w g1 l) (h2 : LiesI w g2 l) :
    Calls Tryd.prog 11 #[.slice (some ⟨g1, 0, none⟩) n c1, .slice (some ⟨g2, 0, none⟩) n c2] w fun e w' => e = .returned (.bool true) ∧ ∃ nq, w' = w.drewN nq := by
  have HN := Lib.hid hn
  have H1 := Lib.hid h1
  have H2 := Lib.hid h2
  clear hn h1 h2
  go_enter Tryd.func11, Tryd.ntmps11
  go_wp2
  go_loopw [13] (fun i wr => ∃ k m : Nat, k ≤ n ∧ i = .int .i64 k ∧ wr = w.drewN m) (fun i _ => n - (intOf i).toNat)
  case atStart => exact ⟨0, 0, Nat.zero_le _, rfl, rfl⟩
  case round =>
    obtain ⟨k, m, hk, rfl, rfl⟩ := hrel
    by_cases hlt : k < n
    · have a1 := H1.out k (by rw [← HN.out]; exact hlt)
      have a2 := H2.out k (by rw [← HN.out]; exact hlt)
      generalize l.getD k 0 = v at a1 a2
      have hi : (k : Int) < (n : Int) := by omega
      have hi0 : (0 : Int) ≤ (k : Int) := by omega
      go_wp2
      go_quiet (fail)
      go_wp2
      go_roundw
      case rel => exact ⟨k + 1, _, by omega, by go_num, rfl⟩
      case measure => simp [intOf]; omega
    · have hd : decide (k < n) = false := by simpa using hlt
      go_wp2
      go_ret
      exact ⟨rfl, _, rfl⟩
theorem s_Reverse_nil (a : Option Addr) (c : Nat) (w : World) :
    Calls Tryd.prog 9 #[.slice a 0 c] w fun e w' => e = .returned (.tuple #[]) ∧ w = w' := by
  go_enter Tryd.func9, Tryd.ntmps9
  go_wp2
  go_loop [2, 3] (fun i j => i = .int .i64 0 ∧ j = .int .i64 (-1)) (fun _ _ => 0)
  case atStart => exact ⟨rfl, rfl⟩
  case round =>
    obtain ⟨rfl, rfl⟩ := hrel
    go_wp2
    go_end0
    exact ⟨rfl, rfl⟩
/-- block g is a row of integers of which the first n are told -/
def HasI (w : World) (g n : Nat) (f : Nat → Nat) : Prop := ∃ cur : Array Value, w.heap[g]? = some (.cells cur 3 (0, 0)) ∧ n ≤ cur.size ∧ ∀ j, j < n → cur[j]? = some (.int .i64 ((f j : Nat) : Int))
theorem HasI.cell {w : World} {g n : Nat} {f : Nat → Nat} (h : HasI w g n f) (j : Nat) (hj : j < n) : w.cell? ⟨g, j, none⟩ = some (.int .i64 ((f j : Nat) : Int)) := by
  obtain ⟨cur, h1, h2, h3⟩ := h
  rw [cell_of_row w g j cur 3 (0, 0) h1, h3 j hj]
theorem HasI.free {w : World} {g n : Nat} {f : Nat → Nat} (h : HasI w g n f) (j : Nat) : w.frozen? ⟨g, j, none⟩ = false := by
  obtain ⟨cur, h1, h2⟩ := h
  simp [World.frozen?, h1]
theorem HasI.set {w : World} {g n : Nat} {f : Nat → Nat} (h : HasI w g n f) (i v : Nat) (hi : i < n) :
    HasI (w.setCell ⟨g, i, none⟩ (.int .i64 (v : Int))) g n (fun t => if t = i then v else f t) := by
  obtain ⟨cur, h1, h2, h3⟩ := h
  refine ⟨cur.setIfInBounds i (.int .i64 (v : Int)), ?_, by simpa using h2, ?_⟩
  · simp [World.setCell, Array.getElem?_modify, h1]
  · intro j hj
    rw [Array.getElem?_setIfInBounds]
    by_cases e : i = j
    · subst e
      have : i < cur.size := by omega
      simp [this]
    · have e' : ¬ j = i := fun q => e q.symm
      rw [if_neg e, h3 j hj]
      simp [e']
theorem HasI.congr {w : World} {g n : Nat} {f h : Nat → Nat} (hr : HasI w g n f) (hh : ∀ j, j < n → f j = h j) : HasI w g n h := by
  obtain ⟨cur, h1, h2, h3⟩ := hr
  exact ⟨cur, h1, h2, fun j hj => by rw [h3 j hj, hh j hj]⟩
theorem HasI.lt {w : World} {g n : Nat} {f : Nat → Nat} (h : HasI w g n f) : g < w.heap.size := by
  obtain ⟨cur, h1, _⟩ := h
  exact (Array.getElem?_eq_some_iff.1 h1).1
theorem ownI_has {w : World} {B : Nat} {l : List Nat} {v : Value} {n : Nat} (hn : n = l.length) (ho : w.ownsRow B 3 1 v n (placesV l)) (h0 : 0 < n) :
    ∃ g cap, v = .slice (some ⟨g, 0, none⟩) n cap ∧ B ≤ g ∧ n ≤ cap ∧ HasI w g n (fun j => l.getD j 0) := by
  rcases ho.2 with ⟨rfl, h1⟩ | ⟨g, cap, cur, rfl, hg, hh, hc, hm, hs, ht⟩
  · omega
  · refine ⟨g, cap, rfl, hg, hc, cur, hh, by omega, ?_⟩
    intro j hj
    have e : (cur.toList.take (n * 1))[j]? = (placesV l)[j]? := by rw [ht]
    rw [List.getElem?_take, if_pos (by omega), Array.getElem?_toList] at e
    rw [e]
    unfold placesV
    have hj' : j < l.length := by omega
    rw [List.getElem?_map, List.getElem?_eq_getElem hj']
    simp [List.getD, hj']
theorem HasI.lies {w : World} {g n : Nat} {f : Nat → Nat} {l : List Nat} (h : HasI w g n f) (hn : n = l.length) (hl : ∀ j, j < n → f j = l.getD j 0) : LiesI w g l := fun j hj => by
  rw [h.cell j (by omega), hl j (by omega)]
theorem rev_getD (D : List Nat) (j : Nat) (hj : j < D.length) : D.getD (D.length - 1 - j) 0 = D.reverse.getD j 0 := by
  simp [List.getD, List.getElem?_reverse hj]
def revF (n k : Nat) (f : Nat → Nat) (j : Nat) : Nat := if j < k ∨ n ≤ j + k then f (n - 1 - j) else f j
theorem revF_step (n k : Nat) (f : Nat → Nat) (hk : k + k + 1 < n) (j : Nat) (hj : j < n) :
    (if j = n - 1 - k then revF n k f k else if j = k then revF n k f (n - 1 - k) else revF n k f j) = revF n (k + 1) f j := by
  unfold revF
  by_cases h1 : j = n - 1 - k
  · rw [if_pos h1, if_neg (by omega), if_pos (by omega)]
    congr 1; omega
  · rw [if_neg h1]
    by_cases h2 : j = k
    · rw [if_pos h2, if_neg (by omega), if_pos (by omega)]
      congr 1; omega
    · rw [if_neg h2]
      by_cases h3 : j < k ∨ n ≤ j + k
      · rw [if_pos h3, if_pos (by omega)]
      · rw [if_neg h3, if_neg (by omega)]
theorem revF_end (n k : Nat) (f : Nat → Nat) (hk : n ≤ k + k + 1) (j : Nat) (hj : j < n) : revF n k f j = f (n - 1 - j) := by
  unfold revF
  split
  · rfl
  · congr 1; omega
set_option maxHeartbeats 1000000 in
theorem s_Reverse (g n c : Nat) (f : Nat → Nat) (w : World) (_hn : n ≤ 64) (hn0 : 0 < n) (h : HasI w g n f) :
    Calls Tryd.prog 9 #[.slice (some ⟨g, 0, none⟩) n c] w fun e w' => e = .returned (.tuple #[]) ∧ HasI w' g n (fun j => f (n - 1 - j)) ∧ Below g w w' := by
  have H := Lib.hid h
  clear h
  go_enter Tryd.func9, Tryd.ntmps9
  go_wp2
  go_loopw [2, 3] (fun i j wr => ∃ k : Nat, k + k ≤ n ∧ i = .int .i64 k ∧ j = .int .i64 ((n : Int) - 1 - (k : Int)) ∧ HasI wr g n (revF n k f) ∧ Below g w wr) (fun i _ _ => n - (intOf i).toNat)
  case atStart => exact ⟨0, by omega, rfl, by go_num, H.out.congr (fun j hj => by unfold revF; rw [if_neg (by omega)]), Below.refl _ _⟩
  case round =>
    obtain ⟨k, hk, rfl, rfl, hrow, hbw⟩ := hrel
    have HR := Lib.hid hrow
    have HB := Lib.hid hbw
    clear hrow hbw
    by_cases hlt : k + k + 1 < n
    · have m1 : k < n - 1 - k := by omega
      have hj : ((n : Int) - 1 - (k : Int)) = ((n - 1 - k : Nat) : Int) := by omega
      rw [hj]
      have ca := HR.out.cell k (by omega)
      have cb := HR.out.cell (n - 1 - k) (by omega)
      have fa := HR.out.free k
      have fb := HR.out.free (n - 1 - k)
      have ST := Lib.hid (revF_step n k f hlt)
      have hm : n - 1 - k < n := by omega
      have hmi : (((n - 1 - k : Nat) : Int)) - 1 = (n : Int) - 1 - ((k + 1 : Nat) : Int) := by omega
      have HMI := Lib.hid hmi
      clear hj hmi
      generalize n - 1 - k = j at m1 ca cb fa fb ST hm HMI
      have hki : (k : Int) < (n : Int) := by omega
      have hji : (j : Int) < (n : Int) := by omega
      have hki0 : (0 : Int) ≤ (k : Int) := by omega
      have hji0 : (0 : Int) ≤ (j : Int) := by omega
      generalize revF n k f k = va at ca ST
      generalize revF n k f j = vb at cb ST
      have hne : (⟨g, k, none⟩ : Addr) ≠ ⟨g, j, none⟩ := by intro e; injection e with _ e2; omega
      go_wp2
      go_region
      all_goals
        go_wp2
        go_roundw
        case rel => exact ⟨k + 1, by omega, by go_num, by rw [← HMI.out], ((HR.out.set k vb (by omega)).set j va hm).congr (fun t ht => ST.out t ht), ((HB.out.setCell (p := ⟨g, k, none⟩) (Nat.le_refl g) (.int .i64 (vb : Int))).setCell (p := ⟨g, j, none⟩) (Nat.le_refl g) (.int .i64 (va : Int))).drew⟩
        case measure => simp [intOf]; omega
    · go_wp2
      go_end0
      exact ⟨rfl, HR.out.congr (fun j hj => revF_end n k f (by omega) j hj), HB.out⟩
theorem LiesI.drewN {w : World} {g : Nat} {l : List Nat} (h : LiesI w g l) (n : Nat) : LiesI (w.drewN n) g l := h
/-- a row is filled from below, another from above; then this is turned in place and a third one is made: nothing below the start is touched -/
theorem places_below {w wA w2 w3 w4 : World} {g2 : Nat} (h1 : Below w.heap.size w wA) (h2 : Below wA.heap.size wA w2) (hg2 : wA.heap.size ≤ g2) (h3 : Below g2 w2 w3) (h4 : Below w3.heap.size w3 w4) : Below w.heap.size w w4 := by
  have b3 : Below w.heap.size w w3 := (below_two h1 h2).trans (h3.mono (Nat.le_trans h1.size hg2))
  exact b3.trans (h4.mono b3.size)
theorem places_lie {wA w2 w3 w4 : World} {g1 g2 N : Nat} {l D : List Nat} (h2 : Below wA.heap.size wA w2) (hg1 : g1 < wA.heap.size) (hg2 : wA.heap.size ≤ g2) (h3 : Below g2 w2 w3) (h4 : Below w3.heap.size w3 w4)
    (l1 : LiesI wA g1 l) (r3 : HasI w3 g2 N (fun j => D.getD (N - 1 - j) 0)) (hl : l = D.reverse) (hD : D.length = N) : LiesI w4 g1 l ∧ LiesI w4 g2 l := by
  have a2 := l1.below h2 hg1
  have a3 := a2.below h3 (by omega)
  have s2 := h2.size
  have s3 := h3.size
  refine ⟨a3.below h4 (by omega), (r3.lies (l := l) ?_ ?_).below h4 r3.lt⟩
  · rw [hl, List.length_reverse, hD]
  · intro j hj
    subst hD
    rw [hl, rev_getD D j hj]
end Go.Proofs.YtmlkdpgfjhabcaaDoor
