/-
  Rows of places in memory, and plain facts on the places of the ones.
-/
import Derived.Test.YtmlkdpgfjhabcaaDoorSpec
import Derived.Test.YtmlkdpgfjhabcaaDoorTz
namespace Go.Proofs.YtmlkdpgfjhabcaaDoor
open Go.RowKit Go.Lathe
/-- a row of places that lies in memory -/
def LiesI (w : World) (g : Nat) (l : List Nat) : Prop := ∀ j, j < l.length → w.cell? ⟨g, j, none⟩ = some (.int .i64 ((l.getD j 0 : Nat) : Int))
theorem ownI_shape {w : World} {B : Nat} {l : List Nat} {v : Value} {n : Nat} (hn : n = l.length) (ho : w.ownsRow B 3 1 v n (placesV l)) (h0 : 0 < n) :
    ∃ g cap, v = .slice (some ⟨g, 0, none⟩) n cap ∧ B ≤ g ∧ g < w.heap.size ∧ n ≤ cap ∧ LiesI w g l := by
  rcases ho.2 with ⟨rfl, h1⟩ | ⟨g, cap, cur, rfl, hg, hh, hc, _⟩
  · omega
  · refine ⟨g, cap, rfl, hg, (ho.lt g rfl).2, hc, ?_⟩
    intro j hj
    have := ho.cells (g := g) rfl j (.int .i64 ((l.getD j 0 : Nat) : Int)) (by
      unfold placesV
      rw [List.getElem?_map, List.getElem?_eq_getElem hj]
      simp [List.getD, hj])
    have e : (⟨g, 0, none⟩ : Addr).add j = ⟨g, j, none⟩ := by unfold Addr.add; split <;> simp_all
    rw [e] at this
    exact this
theorem LiesI.below {w w' : World} {g B : Nat} {l : List Nat} (h : LiesI w g l) (hb : Below B w w') (hg : g < B) : LiesI w' g l := fun j hj => (hb.cell hg).trans (h j hj)
theorem TabAt.lt {g : Nat} {tab : List Nat} {w : World} (h : TabAt g tab w) (h0 : 0 < tab.length) : g < w.heap.size := World.block_lt_of_cell? w ⟨g, 0, none⟩ (h 0 h0)
theorem countP_ones (I x : Nat) : ∀ n, (onesL n x).countP (fun p => decide (p < I)) = pc (min n I) x
  | 0 => by simp [onesL, pc, cnt]
  | n + 1 => by
    rw [onesL_succ, List.countP_append, countP_ones I x n]
    by_cases h : n < I
    · rw [Nat.min_eq_left (show n ≤ I by omega), Nat.min_eq_left (show n + 1 ≤ I by omega)]
      show _ = pc n x + (x.testBit n).toNat
      cases x.testBit n <;> simp [h]
    · rw [Nat.min_eq_right (show I ≤ n by omega), Nat.min_eq_right (show I ≤ n + 1 by omega)]
      cases x.testBit n <;> simp [h]
theorem onesL_prefix (n x : Nat) : ∀ d, ∃ r, onesL (n + d) x = onesL n x ++ r
  | 0 => ⟨[], by simp⟩
  | d + 1 => by
    obtain ⟨r, hr⟩ := onesL_prefix n x d
    exact ⟨r ++ (if x.testBit (n + d) then [n + d] else []), by rw [← Nat.add_assoc, onesL_succ, hr, List.append_assoc]⟩
theorem onesL_at (n x t c : Nat) (hc : c < n) (h : onesL (c + 1) x = onesL t x ++ [c]) : (onesL n x).getD (onesL t x).length 0 = c ∧ (onesL t x).length < (onesL n x).length := by
  obtain ⟨r, hr⟩ := onesL_prefix (c + 1) x (n - (c + 1))
  rw [show c + 1 + (n - (c + 1)) = n by omega, h] at hr
  rw [hr]
  constructor
  · simp [List.getD]
  · simp
end Go.Proofs.YtmlkdpgfjhabcaaDoor
