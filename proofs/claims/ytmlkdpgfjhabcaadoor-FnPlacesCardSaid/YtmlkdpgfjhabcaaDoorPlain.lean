/-
  Plain lemmas on the bits of natural numbers (no Go in sight): numbers out of bits, counts of ones, lengths, turning round, moving round, sums of neighbours, lists of bits and of places.
-/
namespace Go.Lathe
/-! ### numbers out of bits -/
def ofBits : Nat → (Nat → Bool) → Nat
  | 0, _ => 0
  | n + 1, f => (if f n then 2 ^ n else 0) + ofBits n f

theorem ofBits_lt : ∀ (n : Nat) (f : Nat → Bool), ofBits n f < 2 ^ n
  | 0, _ => by simp [ofBits]
  | n + 1, f => by
    have h := ofBits_lt n f
    unfold ofBits
    rw [Nat.pow_succ]
    split <;> omega

theorem testBit_ofBits : ∀ (n : Nat) (f : Nat → Bool) (i : Nat), (ofBits n f).testBit i = (decide (i < n) && f i)
  | 0, f, i => by simp [ofBits]
  | n + 1, f, i => by
    have ih := testBit_ofBits n f i
    have hl := ofBits_lt n f
    rcases Nat.lt_trichotomy i n with h | h | h
    · have h' : i < n + 1 := by omega
      unfold ofBits
      split
      · rw [Nat.testBit_two_pow_add_gt h, ih]; simp [h, h']
      · rw [Nat.zero_add, ih]; simp [h, h']
    · subst h
      unfold ofBits
      have hz : (ofBits i f).testBit i = false := Nat.testBit_lt_two_pow hl
      split
      · rename_i hf
        rw [Nat.testBit_two_pow_add_eq, hz]; simp [hf]
      · rename_i hf
        rw [Nat.zero_add, hz]; simp [hf]
    · have hl' := ofBits_lt (n + 1) f
      have : ¬ i < n + 1 := by omega
      rw [Nat.testBit_lt_two_pow (Nat.lt_of_lt_of_le hl' (Nat.pow_le_pow_right (by decide) (by omega)))]
      simp [this]

theorem eq_of_bits (n a b : Nat) (ha : a < 2 ^ n) (hb : b < 2 ^ n) (h : ∀ i, i < n → a.testBit i = b.testBit i) : a = b := by
  apply Nat.eq_of_testBit_eq
  intro i
  by_cases hi : i < n
  · exact h i hi
  · rw [Nat.testBit_lt_two_pow (Nat.lt_of_lt_of_le ha (Nat.pow_le_pow_right (by decide) (by omega))),
        Nat.testBit_lt_two_pow (Nat.lt_of_lt_of_le hb (Nat.pow_le_pow_right (by decide) (by omega)))]

theorem testBit_hi (n x i : Nat) (hx : x < 2 ^ n) (hi : n ≤ i) : x.testBit i = false :=
  Nat.testBit_lt_two_pow (Nat.lt_of_lt_of_le hx (Nat.pow_le_pow_right (by decide) hi))

theorem ofBits_testBit (n x : Nat) (hx : x < 2 ^ n) : ofBits n x.testBit = x :=
  eq_of_bits n _ _ (ofBits_lt _ _) hx fun i hi => by rw [testBit_ofBits]; simp [hi]

theorem ofBits_congr (n : Nat) (f g : Nat → Bool) (h : ∀ i, i < n → f i = g i) : ofBits n f = ofBits n g :=
  eq_of_bits n _ _ (ofBits_lt _ _) (ofBits_lt _ _) fun i hi => by rw [testBit_ofBits, testBit_ofBits, h i hi]

/-! ### how many bits are set -/
def cnt : Nat → (Nat → Bool) → Nat
  | 0, _ => 0
  | n + 1, f => cnt n f + (f n).toNat

theorem cnt_le : ∀ (n : Nat) (f : Nat → Bool), cnt n f ≤ n
  | 0, _ => by simp [cnt]
  | n + 1, f => by
    have := cnt_le n f
    have := Bool.toNat_le (f n)
    unfold cnt; omega

theorem cnt_congr : ∀ (n : Nat) (f g : Nat → Bool), (∀ i, i < n → f i = g i) → cnt n f = cnt n g
  | 0, _, _, _ => rfl
  | n + 1, f, g, h => by
    unfold cnt
    rw [cnt_congr n f g (fun i hi => h i (by omega)), h n (by omega)]

theorem cnt_add : ∀ (m n : Nat) (f : Nat → Bool), cnt (m + n) f = cnt m f + cnt n (fun i => f (m + i))
  | m, 0, f => by simp [cnt]
  | m, n + 1, f => by
    rw [← Nat.add_assoc]
    show cnt (m + n) f + (f (m + n)).toNat = cnt m f + (cnt n (fun i => f (m + i)) + (f (m + n)).toNat)
    rw [cnt_add m n f]
    omega

theorem cnt_false : ∀ (n : Nat), cnt n (fun _ => false) = 0
  | 0 => rfl
  | n + 1 => by unfold cnt; rw [cnt_false n]; rfl

theorem cnt_true : ∀ (n : Nat), cnt n (fun _ => true) = n
  | 0 => rfl
  | n + 1 => by unfold cnt; rw [cnt_true n]; rfl

theorem cnt_zero_iff : ∀ (n : Nat) (f : Nat → Bool), cnt n f = 0 ↔ ∀ i, i < n → f i = false
  | 0, f => by simp [cnt]
  | n + 1, f => by
    unfold cnt
    have ih := cnt_zero_iff n f
    constructor
    · intro h i hi
      by_cases e : i = n
      · subst e; cases hf : f i <;> simp [hf] at h ⊢
      · exact ih.1 (by omega) i (by omega)
    · intro h
      have := ih.2 (fun i hi => h i (by omega))
      rw [this, h n (by omega)]; rfl

theorem cnt_not : ∀ (n : Nat) (f : Nat → Bool), cnt n f + cnt n (fun i => !f i) = n
  | 0, _ => rfl
  | n + 1, f => by
    have := cnt_not n f
    simp only [cnt]
    cases hf : f n <;> simp <;> omega

theorem cnt_and_or : ∀ (n : Nat) (f g : Nat → Bool), cnt n f + cnt n g = cnt n (fun i => f i && g i) + cnt n (fun i => f i || g i)
  | 0, _, _ => rfl
  | n + 1, f, g => by
    have := cnt_and_or n f g
    simp only [cnt]
    cases hf : f n <;> cases hg : g n <;> simp <;> omega

theorem cnt_xor : ∀ (n : Nat) (f g : Nat → Bool), cnt n f + cnt n g = cnt n (fun i => f i ^^ g i) + 2 * cnt n (fun i => f i && g i)
  | 0, _, _ => rfl
  | n + 1, f, g => by
    have := cnt_xor n f g
    simp only [cnt]
    cases hf : f n <;> cases hg : g n <;> simp <;> omega

theorem cnt_tri : ∀ (n : Nat) (f g h : Nat → Bool), cnt n (fun i => f i ^^ h i) ≤ cnt n (fun i => f i ^^ g i) + cnt n (fun i => g i ^^ h i)
  | 0, _, _, _ => by simp [cnt]
  | n + 1, f, g, h => by
    have := cnt_tri n f g h
    simp only [cnt]
    cases hf : f n <;> cases hg : g n <;> cases hh : h n <;> simp <;> omega

theorem cnt_front (n : Nat) (f : Nat → Bool) : cnt (n + 1) f = (f 0).toNat + cnt n (fun i => f (i + 1)) := by
  rw [Nat.add_comm n 1, cnt_add]
  simp [cnt, Nat.add_comm]

theorem cnt_rev : ∀ (n : Nat) (f : Nat → Bool), cnt n (fun i => f (n - 1 - i)) = cnt n f
  | 0, _ => rfl
  | n + 1, f => by
    rw [cnt_front]
    have e : cnt n (fun i => f (n + 1 - 1 - (i + 1))) = cnt n f := by
      rw [← cnt_rev n f]
      apply cnt_congr
      intro i hi
      congr 1
      omega
    rw [e]
    show (f n).toNat + cnt n f = cnt n f + (f n).toNat
    omega

theorem cnt_rot (n s : Nat) (hs : s ≤ n) (f : Nat → Bool) : cnt n (fun i => f ((i + s) % n)) = cnt n f := by
  have e1 : n = (n - s) + s := by omega
  have a : cnt n (fun i => f ((i + s) % n)) = cnt (n - s) (fun i => f ((i + s) % n)) + cnt s (fun i => f ((n - s + i + s) % n)) := by
    conv => lhs; rw [e1]
    rw [cnt_add]
    rw [← e1]
  have b : cnt n f = cnt s f + cnt (n - s) (fun i => f (s + i)) := by
    rw [← cnt_add]; congr 1; omega
  have c : cnt (n - s) (fun i => f ((i + s) % n)) = cnt (n - s) (fun i => f (s + i)) :=
    cnt_congr _ _ _ fun i hi => by rw [Nat.mod_eq_of_lt (by omega), Nat.add_comm]
  have d : cnt s (fun i => f ((n - s + i + s) % n)) = cnt s f :=
    cnt_congr _ _ _ fun i hi => by
      have : (n - s + i + s) % n = i := by
        rw [show n - s + i + s = i + n by omega, Nat.add_mod_right]
        exact Nat.mod_eq_of_lt (by omega)
      rw [this]
  rw [a, b, c, d]; omega

theorem two_pow_le (a b : Nat) (h : a ≤ b) : 2 ^ a ≤ 2 ^ b := Nat.pow_le_pow_right (by decide) h
theorem two_pow_lt (a b : Nat) (h : a < b) : 2 ^ a < 2 ^ b := Nat.pow_lt_pow_right (by decide) h

/-! ### the number of ones -/
def pc (n x : Nat) : Nat := cnt n x.testBit
theorem pc_le (n x : Nat) : pc n x ≤ n := cnt_le _ _
theorem pc_ext (n a b : Nat) (h : ∀ i, i < n → a.testBit i = b.testBit i) : pc n a = pc n b := cnt_congr _ _ _ h
theorem pc_zero (n : Nat) : pc n 0 = 0 := by unfold pc; rw [cnt_congr n _ (fun _ => false) (by simp), cnt_false]
theorem pc_ones (n : Nat) : pc n (2 ^ n - 1) = n := by
  unfold pc
  rw [cnt_congr n _ (fun _ => true) (fun i hi => by rw [Nat.testBit_two_pow_sub_one]; simp [hi]), cnt_true]
theorem pc_compl (n x : Nat) (hx : x < 2 ^ n) : pc n x + pc n (2 ^ n - 1 - x) = n := by
  have e : pc n (2 ^ n - 1 - x) = cnt n (fun i => !x.testBit i) := by
    apply cnt_congr
    intro i hi
    rw [show 2 ^ n - 1 - x = 2 ^ n - (x + 1) by omega, Nat.testBit_two_pow_sub_succ hx]
    simp [hi]
  rw [e]; exact cnt_not n _
theorem pc_and_or (n x y : Nat) : pc n x + pc n y = pc n (x &&& y) + pc n (x ||| y) := by
  unfold pc
  rw [cnt_and_or, cnt_congr n (x &&& y).testBit (fun i => x.testBit i && y.testBit i) (fun i _ => by simp),
    cnt_congr n (x ||| y).testBit (fun i => x.testBit i || y.testBit i) (fun i _ => by simp)]
theorem pc_xor (n x y : Nat) : pc n x + pc n y = pc n (x ^^^ y) + 2 * pc n (x &&& y) := by
  unfold pc
  rw [cnt_xor, cnt_congr n (x &&& y).testBit (fun i => x.testBit i && y.testBit i) (fun i _ => by simp),
    cnt_congr n (x ^^^ y).testBit (fun i => x.testBit i ^^ y.testBit i) (fun i _ => by simp)]
theorem pc_tri (n x y z : Nat) : pc n (x ^^^ z) ≤ pc n (x ^^^ y) + pc n (y ^^^ z) := by
  unfold pc
  rw [cnt_congr n (x ^^^ z).testBit (fun i => x.testBit i ^^ z.testBit i) (fun i _ => by simp),
    cnt_congr n (x ^^^ y).testBit (fun i => x.testBit i ^^ y.testBit i) (fun i _ => by simp),
    cnt_congr n (y ^^^ z).testBit (fun i => y.testBit i ^^ z.testBit i) (fun i _ => by simp)]
  exact cnt_tri _ _ _ _
theorem pc_eq_zero (n x : Nat) (hx : x < 2 ^ n) : pc n x = 0 ↔ x = 0 := by
  constructor
  · intro h
    have h' := (cnt_zero_iff n x.testBit).1 h
    exact eq_of_bits n x 0 hx (Nat.two_pow_pos n) fun i hi => by rw [h' i hi]; simp
  · intro h; subst h; exact pc_zero n
theorem pc_add (m n x : Nat) : pc (m + n) x = pc m x + pc n (x / 2 ^ m) := by
  unfold pc
  rw [cnt_add]
  congr 1
  apply cnt_congr
  intro i _
  rw [Nat.testBit_div_two_pow]; congr 1; omega
theorem pc_mod (m x : Nat) : pc m (x % 2 ^ m) = pc m x := cnt_congr _ _ _ fun i hi => by rw [Nat.testBit_mod_two_pow]; simp [hi]
theorem pc_wider (n k x : Nat) (hx : x < 2 ^ n) : pc (n + k) x = pc n x := by
  rw [pc_add, Nat.div_eq_of_lt hx, pc_zero]; rfl

/-! ### one bit less -/
theorem cnt_drop : ∀ (n c : Nat) (f : Nat → Bool), c < n → f c = true → cnt n (fun i => f i && decide (i ≠ c)) + 1 = cnt n f
  | 0, _, _, h, _ => absurd h (by omega)
  | n + 1, c, f, h, hf => by
    simp only [cnt]
    by_cases e : c = n
    · subst e
      rw [hf, cnt_congr c (fun i => f i && decide (i ≠ c)) f (fun i hi => by simp; intro _; omega)]
      simp
    · have ih := cnt_drop n c f (by omega) hf
      have : decide (n ≠ c) = true := by simp; omega
      rw [this, Bool.and_true]
      omega

/-! ### the lowest bit that is one -/
/-- x is 2^c times an odd number -/
def lowAt (x c : Nat) : Prop := x.testBit c = true ∧ ∀ i, i < c → x.testBit i = false

theorem lowAt_exists (x : Nat) (h : x ≠ 0) : ∃ c, lowAt x c := by
  have key : ∀ n, (∃ c, lowAt x c) ∨ ∀ i, i < n → x.testBit i = false := by
    intro n
    induction n with
    | zero => right; intro i hi; omega
    | succ n ih =>
      rcases ih with h1 | h1
      · left; exact h1
      · cases hb : x.testBit n with
        | true => left; exact ⟨n, hb, h1⟩
        | false =>
          right
          intro i hi
          by_cases e : i = n
          · subst e; exact hb
          · exact h1 i (by omega)
  rcases key (x + 1) with h1 | h1
  · exact h1
  · exfalso
    apply h
    apply Nat.eq_of_testBit_eq
    intro i
    rw [Nat.zero_testBit]
    by_cases hi : i < x + 1
    · exact h1 i hi
    · exact Nat.testBit_lt_two_pow (Nat.lt_trans (by omega) (Nat.lt_two_pow_self))

theorem lowAt_unique (x c d : Nat) (h1 : lowAt x c) (h2 : lowAt x d) : c = d := by
  rcases Nat.lt_trichotomy c d with h | h | h
  · have := h2.2 c h; rw [h1.1] at this; cases this
  · exact h
  · have := h1.2 d h; rw [h2.1] at this; cases this

theorem lowAt_lt (n x c : Nat) (hx : x < 2 ^ n) (h : lowAt x c) : c < n := by
  apply Nat.lt_of_not_le
  intro hle
  have := testBit_hi n x c hx hle
  rw [h.1] at this; cases this

theorem lowAt_form (x c : Nat) (h : lowAt x c) : ∃ m, x = 2 ^ c * (2 * m + 1) := by
  refine ⟨x / 2 ^ (c + 1), ?_⟩
  have h0 : x % 2 ^ c = 0 := by
    apply Nat.eq_of_testBit_eq
    intro i
    rw [Nat.testBit_mod_two_pow, Nat.zero_testBit]
    by_cases hi : i < c
    · rw [h.2 i hi]; simp
    · simp [hi]
  have h1 : x / 2 ^ c % 2 = 1 := by
    have := h.1
    rw [Nat.testBit_eq_decide_div_mod_eq] at this
    simpa using this
  have e : x / 2 ^ (c + 1) = x / 2 ^ c / 2 := by rw [Nat.pow_succ, Nat.div_div_eq_div_mul]
  have d := Nat.div_add_mod x (2 ^ c)
  rw [h0, Nat.add_zero] at d
  rw [e]
  have : 2 * (x / 2 ^ c / 2) + 1 = x / 2 ^ c := by omega
  rw [this, d]

theorem lowAt_of_form (c m : Nat) : lowAt (2 ^ c * (2 * m + 1)) c := by
  constructor
  · rw [Nat.mul_comm, Nat.testBit_mul_two_pow]
    simp [Nat.testBit_zero]
  · intro i hi
    rw [Nat.mul_comm, Nat.testBit_mul_two_pow]
    simp; omega

theorem lowAt_pos (x c : Nat) (h : lowAt x c) : 2 ^ c ≤ x := by
  obtain ⟨m, rfl⟩ := lowAt_form x c h
  exact Nat.le_mul_of_pos_right _ (by omega)

/-- x & (x - 1) is x without its lowest one -/
theorem testBit_pred (x c : Nat) (h : lowAt x c) (i : Nat) : (x - 1).testBit i = if i < c then true else if i = c then false else x.testBit i := by
  obtain ⟨m, rfl⟩ := lowAt_form x c h
  have hp := Nat.two_pow_pos c
  have e : 2 ^ c * (2 * m + 1) - 1 = 2 ^ c * (2 * m) + (2 ^ c - 1) := by
    rw [Nat.mul_add]; omega
  rw [e, Nat.testBit_two_pow_mul_add _ (by omega)]
  split
  · rw [Nat.testBit_two_pow_sub_one]; simp; assumption
  · rename_i hi
    rw [Nat.mul_comm (2 ^ c), Nat.testBit_mul_two_pow]
    split
    · rename_i he; subst he; simp [Nat.testBit_zero]
    · rename_i he
      have h1 : c ≤ i := by omega
      obtain ⟨j, hj⟩ : ∃ j, i - c = j + 1 := ⟨i - c - 1, by omega⟩
      rw [hj]
      simp only [h1, decide_true, Bool.true_and]
      rw [Nat.testBit_succ, Nat.testBit_succ]
      congr 1; omega

theorem testBit_clear (x c : Nat) (h : lowAt x c) (i : Nat) : (x &&& (x - 1)).testBit i = (x.testBit i && decide (i ≠ c)) := by
  rw [Nat.testBit_and, testBit_pred x c h]
  split
  · rename_i hi; rw [h.2 i hi]; simp
  · split
    · rename_i he; subst he; simp
    · rename_i he; simp [he]

theorem pc_clear (n x : Nat) (hx : x < 2 ^ n) (h0 : x ≠ 0) : pc n (x &&& (x - 1)) + 1 = pc n x := by
  obtain ⟨c, h⟩ := lowAt_exists x h0
  have hc := lowAt_lt n x c hx h
  unfold pc
  rw [cnt_congr n _ (fun i => x.testBit i && decide (i ≠ c)) (fun i _ => testBit_clear x c h i)]
  exact cnt_drop n c _ hc h.1

/-- trailing zeros -/
theorem low_two_pow (c : Nat) : lowAt (2 ^ c) c := by have := lowAt_of_form c 0; simpa using this

theorem pc_one_iff (n x c : Nat) (hx : x < 2 ^ n) (h : lowAt x c) : pc n x = 1 ↔ x = 2 ^ c := by
  have h0 : x ≠ 0 := by intro e; subst e; have := h.1; simp at this
  have e1 := pc_clear n x hx h0
  have e2 := pc_eq_zero n (x &&& (x - 1)) (Nat.lt_of_le_of_lt Nat.and_le_left hx)
  constructor
  · intro hp
    have : x &&& (x - 1) = 0 := e2.1 (by omega)
    apply Nat.eq_of_testBit_eq
    intro i
    have hb := testBit_clear x c h i
    rw [this, Nat.zero_testBit] at hb
    rw [Nat.testBit_two_pow]
    by_cases he : c = i
    · subst he; rw [h.1]; simp
    · have he' : decide (i ≠ c) = true := by simp; omega
      rw [he', Bool.and_true] at hb
      rw [← hb]; simp [he]
  · intro he
    have : x &&& (x - 1) = 0 := by
      apply Nat.eq_of_testBit_eq
      intro i
      rw [testBit_clear x c h, Nat.zero_testBit, he, Nat.testBit_two_pow]
      by_cases hi : c = i
      · subst hi; simp
      · simp [hi]
    have := e2.2 this
    omega

/-! ### the length -/
/-- n is the length of x -/
def lenIs (x n : Nat) : Prop := x < 2 ^ n ∧ (n = 0 ∨ x.testBit (n - 1) = true)

theorem lenIs_unique (x a b : Nat) (h1 : lenIs x a) (h2 : lenIs x b) : a = b := by
  have key : ∀ a b, lenIs x a → lenIs x b → ¬ a < b := by
    intro a b h1 h2 h
    rcases h2.2 with h0 | h0
    · omega
    · have := testBit_hi a x (b - 1) h1.1 (by omega)
      rw [h0] at this; cases this
  have := key a b h1 h2
  have := key b a h2 h1
  omega

theorem lenIs_zero : lenIs 0 0 := ⟨by simp, Or.inl rfl⟩

theorem lenIs_ge (x n : Nat) (h : lenIs x n) (h0 : n ≠ 0) : 2 ^ (n - 1) ≤ x := by
  rcases h.2 with h1 | h1
  · exact absurd h1 h0
  · exact Nat.ge_two_pow_of_testBit h1

theorem lenIs_of_ge (x n : Nat) (h : x < 2 ^ n) (h0 : n = 0 ∨ 2 ^ (n - 1) ≤ x) : lenIs x n := by
  refine ⟨h, ?_⟩
  rcases h0 with h0 | h0
  · exact Or.inl h0
  · by_cases hn : n = 0
    · exact Or.inl hn
    · right
      have e : x / 2 ^ (n - 1) = 1 := by
        apply Nat.div_eq_of_lt_le
        · simpa using h0
        · have : 2 ^ n = 2 ^ (n - 1) * 2 := by rw [← Nat.pow_succ]; congr 1; omega
          omega
      rw [Nat.testBit_eq_decide_div_mod_eq, e]; rfl

theorem lenIs_exists (n x : Nat) (hx : x < 2 ^ n) : ∃ k, k ≤ n ∧ lenIs x k := by
  induction n with
  | zero => exact ⟨0, by omega, hx, Or.inl rfl⟩
  | succ n ih =>
    by_cases h : x < 2 ^ n
    · obtain ⟨k, hk, hl⟩ := ih h
      exact ⟨k, by omega, hl⟩
    · exact ⟨n + 1, by omega, lenIs_of_ge _ _ hx (Or.inr (by simpa using h))⟩

theorem lenIs_mono (x y a b : Nat) (h : x ≤ y) (h1 : lenIs x a) (h2 : lenIs y b) : a ≤ b := by
  apply Nat.le_of_not_lt
  intro hlt
  have := lenIs_ge x a h1 (by omega)
  have h3 := two_pow_le b (a - 1) (by omega)
  have := h2.1
  omega

theorem lenIs_shift (x n : Nat) (h : lenIs x n) (h0 : n ≠ 0) : x / 2 ^ (n - 1) = 1 := by
  have a := lenIs_ge x n h h0
  apply Nat.div_eq_of_lt_le
  · simpa using a
  · have : 2 ^ n = 2 ^ (n - 1) * 2 := by rw [← Nat.pow_succ]; congr 1; omega
    have := h.1
    omega

theorem lenIs_ones (n : Nat) : lenIs (2 ^ n - 1) n := by
  have := Nat.two_pow_pos n
  refine ⟨by omega, ?_⟩
  by_cases h : n = 0
  · exact Or.inl h
  · right; rw [Nat.testBit_two_pow_sub_one]; simp; omega

theorem lenIs_zero_iff (x n : Nat) (h : lenIs x n) : n = 0 ↔ x = 0 := by
  constructor
  · intro e; subst e; have := h.1; simp at this; exact this
  · intro e; subst e; exact lenIs_unique 0 n 0 h lenIs_zero

/-! ### turned round -/
def rev (n x : Nat) : Nat := ofBits n fun i => x.testBit (n - 1 - i)
theorem rev_lt (n x : Nat) : rev n x < 2 ^ n := ofBits_lt _ _
theorem testBit_rev (n x i : Nat) (hi : i < n) : (rev n x).testBit i = x.testBit (n - 1 - i) := by unfold rev; rw [testBit_ofBits]; simp [hi]
theorem rev_rev (n x : Nat) (hx : x < 2 ^ n) : rev n (rev n x) = x :=
  eq_of_bits n _ _ (rev_lt _ _) hx fun i hi => by
    rw [testBit_rev n _ i hi, testBit_rev n x _ (by omega)]; congr 1; omega
theorem pc_rev (n x : Nat) : pc n (rev n x) = pc n x := by
  unfold pc
  rw [cnt_congr n _ (fun i => x.testBit (n - 1 - i)) (fun i hi => testBit_rev n x i hi)]
  exact cnt_rev n _
theorem rev_and (n x y : Nat) : rev n (x &&& y) = rev n x &&& rev n y :=
  eq_of_bits n _ _ (rev_lt _ _) (Nat.lt_of_le_of_lt Nat.and_le_left (rev_lt _ _)) fun i hi => by
    rw [Nat.testBit_and, testBit_rev n _ i hi, testBit_rev n x i hi, testBit_rev n y i hi, Nat.testBit_and]
theorem rev_or (n x y : Nat) : rev n (x ||| y) = rev n x ||| rev n y :=
  eq_of_bits n _ _ (rev_lt _ _) (Nat.or_lt_two_pow (rev_lt _ _) (rev_lt _ _)) fun i hi => by
    rw [Nat.testBit_or, testBit_rev n _ i hi, testBit_rev n x i hi, testBit_rev n y i hi, Nat.testBit_or]
theorem testBit_compl (n x i : Nat) (hx : x < 2 ^ n) (hi : i < n) : (2 ^ n - 1 - x).testBit i = !x.testBit i := by
  rw [show 2 ^ n - 1 - x = 2 ^ n - (x + 1) by omega, Nat.testBit_two_pow_sub_succ hx]; simp [hi]
theorem compl_lt (n x : Nat) : 2 ^ n - 1 - x < 2 ^ n := by have := Nat.two_pow_pos n; omega
theorem rev_compl (n x : Nat) (hx : x < 2 ^ n) : rev n (2 ^ n - 1 - x) = 2 ^ n - 1 - rev n x :=
  eq_of_bits n _ _ (rev_lt _ _) (compl_lt _ _) fun i hi => by
    rw [testBit_rev n _ i hi, testBit_compl n x _ hx (by omega), testBit_compl n _ i (rev_lt _ _) hi, testBit_rev n x i hi]
theorem rev_inj (n x y : Nat) (hx : x < 2 ^ n) (hy : y < 2 ^ n) : rev n x = rev n y ↔ x = y := by
  constructor
  · intro h; rw [← rev_rev n x hx, h, rev_rev n y hy]
  · intro h; rw [h]
theorem rev_zero (n : Nat) : rev n 0 = 0 := by
  apply eq_of_bits n _ _ (rev_lt _ _) (Nat.two_pow_pos _)
  intro i hi; rw [testBit_rev n 0 i hi]; simp

/-- the zeros ahead of the number turned round are those behind the lowest one -/
theorem lenIs_rev (n x c : Nat) (hx : x < 2 ^ n) (h : lowAt x c) : lenIs (rev n x) (n - c) := by
  have hc := lowAt_lt n x c hx h
  constructor
  · apply Nat.lt_pow_two_of_testBit
    intro i hi
    by_cases hi' : i < n
    · rw [testBit_rev n x i hi']; exact h.2 _ (by omega)
    · exact testBit_hi n _ i (rev_lt _ _) (by omega)
  · right
    rw [testBit_rev n x _ (by omega)]
    rw [show n - 1 - (n - c - 1) = c by omega]; exact h.1

/-! ### moved round -/
def rotl (n x s : Nat) : Nat := ofBits n fun i => x.testBit ((i + (n - s)) % n)
theorem rotl_lt (n x s : Nat) : rotl n x s < 2 ^ n := ofBits_lt _ _
theorem testBit_rotl (n x s i : Nat) (hi : i < n) : (rotl n x s).testBit i = x.testBit ((i + (n - s)) % n) := by unfold rotl; rw [testBit_ofBits]; simp [hi]
theorem rotl_zero (n x : Nat) (hx : x < 2 ^ n) : rotl n x 0 = x :=
  eq_of_bits n _ _ (rotl_lt _ _ _) hx fun i hi => by
    rw [testBit_rotl n x 0 i hi, Nat.sub_zero, Nat.add_mod_right, Nat.mod_eq_of_lt hi]
theorem rotl_rotl (n x a b : Nat) (ha : a < n) (hb : b < n) : rotl n (rotl n x a) b = rotl n x ((a + b) % n) :=
  eq_of_bits n _ _ (rotl_lt _ _ _) (rotl_lt _ _ _) fun i hi => by
    have hn : 0 < n := by omega
    rw [testBit_rotl n _ b i hi, testBit_rotl n x a _ (Nat.mod_lt _ hn), testBit_rotl n x _ i hi]
    congr 1
    by_cases h : a + b < n
    · rw [Nat.mod_eq_of_lt h, Nat.mod_add_mod]
      have e : i + (n - b) + (n - a) = i + (n - (a + b)) + n := by omega
      rw [e, Nat.add_mod_right]
    · have : (a + b) % n = a + b - n := by
        rw [Nat.mod_eq_sub_mod (by omega), Nat.mod_eq_of_lt (by omega)]
      rw [this, Nat.mod_add_mod]
      congr 1; omega
theorem pc_rotl (n x s : Nat) (hs : s ≤ n) : pc n (rotl n x s) = pc n x := by
  unfold pc
  rw [cnt_congr n _ (fun i => x.testBit ((i + (n - s)) % n)) (fun i hi => testBit_rotl n x s i hi)]
  exact cnt_rot n (n - s) (by omega) _
/-- turned round, it goes the other way -/
theorem rev_rotl (n x s : Nat) (hs : s < n) : rev n (rotl n x s) = rotl n (rev n x) ((n - s) % n) :=
  eq_of_bits n _ _ (rev_lt _ _) (rotl_lt _ _ _) fun i hi => by
    have hn : 0 < n := by omega
    rw [testBit_rev n _ i hi, testBit_rotl n x s _ (by omega), testBit_rotl n _ _ i hi, testBit_rev n x _ (Nat.mod_lt _ hn)]
    congr 1
    by_cases h0 : s = 0
    · subst h0
      rw [Nat.sub_zero, Nat.mod_self, Nat.add_mod_right, Nat.sub_zero, Nat.add_mod_right, Nat.mod_eq_of_lt hi, Nat.mod_eq_of_lt (by omega)]
    · rw [Nat.mod_eq_of_lt (show n - s < n by omega), show n - (n - s) = s by omega]
      by_cases h : i + s < n
      · rw [Nat.mod_eq_of_lt h, show n - 1 - i + (n - s) = (n - 1 - (i + s)) + n by omega, Nat.add_mod_right, Nat.mod_eq_of_lt (by omega)]
      · rw [show i + s = (i + s - n) + n by omega, Nat.add_mod_right, Nat.mod_eq_of_lt (show i + s - n < n by omega), Nat.mod_eq_of_lt (by omega)]
        omega

/-- x << s | x >> (n - s) -/
theorem rotl_shifts (n x s : Nat) (hx : x < 2 ^ n) (hs : s < n) : (x * 2 ^ s % 2 ^ n) ||| (x / 2 ^ (n - s)) = rotl n x s := by
  have hd : x / 2 ^ (n - s) < 2 ^ n := Nat.lt_of_le_of_lt (Nat.div_le_self _ _) hx
  refine eq_of_bits n _ _ (Nat.or_lt_two_pow (Nat.mod_lt _ (Nat.two_pow_pos _)) hd) (rotl_lt _ _ _) fun i hi => ?_
  rw [testBit_rotl n x s i hi, Nat.testBit_or, Nat.testBit_mod_two_pow, Nat.testBit_mul_two_pow, Nat.testBit_div_two_pow]
  simp only [hi, decide_true, Bool.true_and]
  by_cases h : s ≤ i
  · have z : x.testBit (i + (n - s)) = false := testBit_hi n x _ hx (by omega)
    rw [z, Bool.or_false, show i + (n - s) = (i - s) + n by omega, Nat.add_mod_right, Nat.mod_eq_of_lt (by omega)]
    simp [h]
  · rw [Nat.mod_eq_of_lt (show i + (n - s) < n by omega)]
    simp [h]

/-! ### the bytes turned round -/
def revB (n x : Nat) : Nat := ofBits n fun i => x.testBit (n - 8 - 8 * (i / 8) + i % 8)
theorem revB_lt (n x : Nat) : revB n x < 2 ^ n := ofBits_lt _ _
theorem testBit_revB (n x i : Nat) (hi : i < n) : (revB n x).testBit i = x.testBit (n - 8 - 8 * (i / 8) + i % 8) := by unfold revB; rw [testBit_ofBits]; simp [hi]
theorem revB_revB (m x : Nat) (hx : x < 2 ^ (8 * m)) : revB (8 * m) (revB (8 * m) x) = x :=
  eq_of_bits (8 * m) _ _ (revB_lt _ _) hx fun i hi => by
    rw [testBit_revB _ _ i hi, testBit_revB _ x _ (by omega)]; congr 1; omega

/-! ### exchanging bits under a mask -/
def sw (d M i : Nat) : Nat := if M.testBit i then i + d else i - d
theorem swap_bits (n d M x : Nat) (hM : ∀ i, i < n → M.testBit i = !(decide (d ≤ i) && M.testBit (i - d))) (i : Nat) (hi : i < n) :
    (((x / 2 ^ d) &&& M) ||| ((x &&& M) * 2 ^ d % 2 ^ n)).testBit i = x.testBit (sw d M i) := by
  rw [Nat.testBit_or, Nat.testBit_and, Nat.testBit_div_two_pow, Nat.testBit_mod_two_pow, Nat.testBit_mul_two_pow, Nat.testBit_and]
  simp only [hi, decide_true, Bool.true_and]
  have h := hM i hi
  unfold sw
  cases hm : M.testBit i with
  | true =>
    rw [hm] at h
    simp only [Bool.true_eq, Bool.not_eq_true'] at h
    cases hd : decide (d ≤ i) with
    | true => rw [hd, Bool.true_and] at h; simp [h]
    | false => simp
  | false =>
    rw [hm] at h
    have h' : (decide (d ≤ i) && M.testBit (i - d)) = true := by simpa using h.symm
    rw [Bool.and_eq_true] at h'
    simp [h'.1, h'.2]

/-! ### the library's own numbers -/
def swp (n d M x : Nat) : Nat := ((x / 2 ^ d) &&& M) ||| ((x &&& M) * 2 ^ d % 2 ^ n)
theorem swp_lt (n d M x : Nat) (hM : M < 2 ^ n) : swp n d M x < 2 ^ n :=
  Nat.or_lt_two_pow (Nat.lt_of_le_of_lt Nat.and_le_right hM) (Nat.mod_lt _ (Nat.two_pow_pos _))
def okMask (n d M : Nat) : Prop := ∀ i, i < n → M.testBit i = !(decide (d ≤ i) && M.testBit (i - d))
instance (n d M : Nat) : Decidable (okMask n d M) := by unfold okMask; infer_instance
theorem testBit_swp (n d M x : Nat) (h : okMask n d M) (i : Nat) (hi : i < n) : (swp n d M x).testBit i = x.testBit (sw d M i) := swap_bits n d M x h i hi

/-- the last step: the halves -/
theorem testBit_halves (n h x : Nat) (hx : x < 2 ^ n) (hn : n = h + h) (i : Nat) (hi : i < n) :
    ((x / 2 ^ h) ||| (x * 2 ^ h % 2 ^ n)).testBit i = x.testBit (if i < h then i + h else i - h) := by
  rw [Nat.testBit_or, Nat.testBit_div_two_pow, Nat.testBit_mod_two_pow, Nat.testBit_mul_two_pow]
  simp only [hi, decide_true, Bool.true_and]
  by_cases hh : i < h
  · have : ¬ h ≤ i := by omega
    simp [hh, this]
  · have z : x.testBit (i + h) = false := testBit_hi n x _ hx (by omega)
    have : h ≤ i := by omega
    simp [hh, z, this]
theorem halves_lt (n h x : Nat) (hx : x < 2 ^ n) : ((x / 2 ^ h) ||| (x * 2 ^ h % 2 ^ n)) < 2 ^ n :=
  Nat.or_lt_two_pow (Nat.lt_of_le_of_lt (Nat.div_le_self _ _) hx) (Nat.mod_lt _ (Nat.two_pow_pos _))

def rb64 (x : Nat) : Nat :=
  let y := swp 64 8 71777214294589695 x
  let z := swp 64 16 281470681808895 y
  (z / 2 ^ 32) ||| (z * 2 ^ 32 % 2 ^ 64)
def rb32 (x : Nat) : Nat :=
  let y := swp 32 8 16711935 x
  (y / 2 ^ 16) ||| (y * 2 ^ 16 % 2 ^ 32)

theorem ix_b64 : ∀ i, i < 64 → sw 16 281470681808895 (if i < 32 then i + 32 else i - 32) < 64 ∧ (if i < 32 then i + 32 else i - 32) < 64 ∧
    sw 8 71777214294589695 (sw 16 281470681808895 (if i < 32 then i + 32 else i - 32)) = 64 - 8 - 8 * (i / 8) + i % 8 := by decide +kernel
theorem ix_b32 : ∀ i, i < 32 → (if i < 16 then i + 16 else i - 16) < 32 ∧ sw 8 16711935 (if i < 16 then i + 16 else i - 16) = 32 - 8 - 8 * (i / 8) + i % 8 := by decide +kernel
theorem mk_b64_8 : okMask 64 8 71777214294589695 := by decide +kernel
theorem mk_b64_16 : okMask 64 16 281470681808895 := by decide +kernel
theorem mk_b32_8 : okMask 32 8 16711935 := by decide +kernel

theorem rb64_eq (x : Nat) : rb64 x = revB 64 x := by
  have h1 := swp_lt 64 16 281470681808895 (swp 64 8 71777214294589695 x) (by decide)
  refine eq_of_bits 64 _ _ (halves_lt 64 32 _ h1) (revB_lt _ _) fun i hi => ?_
  obtain ⟨a, b, c⟩ := ix_b64 i hi
  unfold rb64
  rw [testBit_halves 64 32 _ h1 rfl i hi, testBit_swp 64 16 _ _ mk_b64_16 _ b, testBit_swp 64 8 _ _ mk_b64_8 _ a, c, testBit_revB 64 x i hi]
theorem rb32_eq (x : Nat) : rb32 x = revB 32 x := by
  have h1 := swp_lt 32 8 16711935 x (by decide)
  refine eq_of_bits 32 _ _ (halves_lt 32 16 _ h1) (revB_lt _ _) fun i hi => ?_
  obtain ⟨b, c⟩ := ix_b32 i hi
  unfold rb32
  rw [testBit_halves 32 16 _ h1 rfl i hi, testBit_swp 32 8 _ _ mk_b32_8 _ b, c, testBit_revB 32 x i hi]
theorem rb16_eq (x : Nat) (hx : x < 2 ^ 16) : (x / 2 ^ 8) ||| (x * 2 ^ 8 % 2 ^ 16) = revB 16 x := by
  refine eq_of_bits 16 _ _ (halves_lt 16 8 _ hx) (revB_lt _ _) fun i hi => ?_
  rw [testBit_halves 16 8 _ hx rfl i hi, testBit_revB 16 x i hi]
  congr 1
  split <;> omega

def rv64 (x : Nat) : Nat := revB 64 (swp 64 4 1085102592571150095 (swp 64 2 3689348814741910323 (swp 64 1 6148914691236517205 x)))
def rv32 (x : Nat) : Nat := revB 32 (swp 32 4 252645135 (swp 32 2 858993459 (swp 32 1 1431655765 x)))
theorem ix_r64 : ∀ i, i < 64 → (64 - 8 - 8 * (i / 8) + i % 8) < 64 ∧ sw 4 1085102592571150095 (64 - 8 - 8 * (i / 8) + i % 8) < 64 ∧
    sw 2 3689348814741910323 (sw 4 1085102592571150095 (64 - 8 - 8 * (i / 8) + i % 8)) < 64 ∧
    sw 1 6148914691236517205 (sw 2 3689348814741910323 (sw 4 1085102592571150095 (64 - 8 - 8 * (i / 8) + i % 8))) = 64 - 1 - i := by decide +kernel
theorem ix_r32 : ∀ i, i < 32 → (32 - 8 - 8 * (i / 8) + i % 8) < 32 ∧ sw 4 252645135 (32 - 8 - 8 * (i / 8) + i % 8) < 32 ∧
    sw 2 858993459 (sw 4 252645135 (32 - 8 - 8 * (i / 8) + i % 8)) < 32 ∧
    sw 1 1431655765 (sw 2 858993459 (sw 4 252645135 (32 - 8 - 8 * (i / 8) + i % 8))) = 32 - 1 - i := by decide +kernel
theorem mk_r64_4 : okMask 64 4 1085102592571150095 := by decide +kernel
theorem mk_r64_2 : okMask 64 2 3689348814741910323 := by decide +kernel
theorem mk_r64_1 : okMask 64 1 6148914691236517205 := by decide +kernel
theorem mk_r32_4 : okMask 32 4 252645135 := by decide +kernel
theorem mk_r32_2 : okMask 32 2 858993459 := by decide +kernel
theorem mk_r32_1 : okMask 32 1 1431655765 := by decide +kernel
theorem rv64_eq (x : Nat) : rv64 x = rev 64 x := by
  refine eq_of_bits 64 _ _ (revB_lt _ _) (rev_lt _ _) fun i hi => ?_
  obtain ⟨a, b, c, d⟩ := ix_r64 i hi
  unfold rv64
  rw [testBit_revB 64 _ i hi, testBit_swp 64 4 _ _ mk_r64_4 _ a, testBit_swp 64 2 _ _ mk_r64_2 _ b, testBit_swp 64 1 _ _ mk_r64_1 _ c, d, testBit_rev 64 x i hi]
theorem rv32_eq (x : Nat) : rv32 x = rev 32 x := by
  refine eq_of_bits 32 _ _ (revB_lt _ _) (rev_lt _ _) fun i hi => ?_
  obtain ⟨a, b, c, d⟩ := ix_r32 i hi
  unfold rv32
  rw [testBit_revB 32 _ i hi, testBit_swp 32 4 _ _ mk_r32_4 _ a, testBit_swp 32 2 _ _ mk_r32_2 _ b, testBit_swp 32 1 _ _ mk_r32_1 _ c, d, testBit_rev 32 x i hi]

/-! ### summing neighbours: the digits of a number to a base -/
/-- the sum of the n lowest digits to the base B -/
def ds (B : Nat) : Nat → Nat → Nat
  | 0, _ => 0
  | n + 1, x => x % B + ds B n (x / B)

theorem ds_two : ∀ (n x : Nat), ds 2 n x = pc n x
  | 0, _ => rfl
  | n + 1, x => by
    unfold ds
    rw [ds_two n (x / 2), Nat.add_comm n 1, pc_add 1 n x]
    congr 1
    simp [pc, cnt, Nat.testBit_zero]
    rcases Nat.mod_two_eq_zero_or_one x with h | h <;> simp [h]

/-- the mask: n fields of 2s bits, the lower s bits of each one -/
def msk (s : Nat) : Nat → Nat
  | 0 => 0
  | n + 1 => (2 ^ s - 1) + 2 ^ (2 * s) * msk s n

theorem and_split (k a b p q : Nat) (hp : p < 2 ^ k) (hq : q < 2 ^ k) : (p + 2 ^ k * a) &&& (q + 2 ^ k * b) = (p &&& q) + 2 ^ k * (a &&& b) := by
  apply Nat.eq_of_testBit_eq
  intro i
  have hpq : p &&& q < 2 ^ k := Nat.lt_of_le_of_lt Nat.and_le_left hp
  rw [Nat.testBit_and, Nat.add_comm p, Nat.add_comm q, Nat.add_comm (p &&& q), Nat.testBit_two_pow_mul_add _ hp, Nat.testBit_two_pow_mul_add _ hq, Nat.testBit_two_pow_mul_add _ hpq]
  split <;> simp

theorem and_ones (s x : Nat) : x &&& (2 ^ s - 1) = x % 2 ^ s := Nat.and_two_pow_sub_one_eq_mod x s

/-- what the masked halves are, field by field -/
theorem and_msk_step (s n x : Nat) : x &&& msk s (n + 1) = x % 2 ^ s + 2 ^ (2 * s) * ((x / 2 ^ (2 * s)) &&& msk s n) := by
  have hs : 2 ^ s ≤ 2 ^ (2 * s) := two_pow_le _ _ (by omega)
  have hp := Nat.two_pow_pos s
  have h := and_split (2 * s) (x / 2 ^ (2 * s)) (msk s n) (x % 2 ^ (2 * s)) (2 ^ s - 1) (Nat.mod_lt _ (Nat.two_pow_pos _)) (by omega)
  have e : x % 2 ^ (2 * s) + 2 ^ (2 * s) * (x / 2 ^ (2 * s)) = x := Nat.mod_add_div _ _
  rw [e] at h
  show x &&& ((2 ^ s - 1) + 2 ^ (2 * s) * msk s n) = _
  rw [h, and_ones, show (2 : Nat) ^ (2 * s) = 2 ^ s * 2 ^ s by rw [← Nat.pow_add]; congr 1; omega, Nat.mod_mul_right_mod]

/-- one step: (x >> s) & m + x & m; its digits to the base 2^(2s) are the sums of the pairs of x's digits to the base 2^s -/
theorem ds_pairs (s n : Nat) (hs : 0 < s) : ∀ (x : Nat), ds (2 ^ (2 * s)) n (((x / 2 ^ s) &&& msk s n) + (x &&& msk s n)) = ds (2 ^ s) (2 * n) x := by
  induction n with
  | zero => intro x; rfl
  | succ n ih =>
    intro x
    have hp := Nat.two_pow_pos s
    have hB : (2 : Nat) ^ (2 * s) = 2 ^ s * 2 ^ s := by rw [← Nat.pow_add]; congr 1; omega
    have h2 : 2 ≤ 2 ^ s := by have := two_pow_le 1 s hs; simpa using this
    rw [and_msk_step s n x, and_msk_step s n (x / 2 ^ s)]
    rw [show 2 * (n + 1) = 2 * n + 1 + 1 by omega]
    simp only [ds]
    have hlow : (x / 2 ^ s) % 2 ^ s + x % 2 ^ s < 2 ^ (2 * s) := by
      have a := Nat.mod_lt (x / 2 ^ s) hp
      have b := Nat.mod_lt x hp
      rw [hB]
      have : 2 ^ s * 2 ≤ 2 ^ s * 2 ^ s := Nat.mul_le_mul_left _ h2
      omega
    have e : (x / 2 ^ s) % 2 ^ s + 2 ^ (2 * s) * (x / 2 ^ s / 2 ^ (2 * s) &&& msk s n) + (x % 2 ^ s + 2 ^ (2 * s) * (x / 2 ^ (2 * s) &&& msk s n)) =
        ((x / 2 ^ s) % 2 ^ s + x % 2 ^ s) + 2 ^ (2 * s) * ((x / 2 ^ (2 * s) / 2 ^ s &&& msk s n) + (x / 2 ^ (2 * s) &&& msk s n)) := by
      rw [Nat.div_div_eq_div_mul x (2 ^ s), Nat.mul_comm (2 ^ s) (2 ^ (2 * s)), ← Nat.div_div_eq_div_mul x, Nat.mul_add]
      omega
    rw [e, Nat.add_mul_mod_self_left, Nat.mod_eq_of_lt hlow, Nat.add_mul_div_left _ _ (Nat.two_pow_pos _), Nat.div_eq_of_lt hlow, Nat.zero_add, ih]
    rw [Nat.div_div_eq_div_mul x (2 ^ s) (2 ^ s), ← hB]
    omega

/-- the masked parts are small -/
theorem and_msk_le (s n : Nat) : ∀ x : Nat, (x &&& msk s n) * (2 ^ s) < 2 ^ (2 * s * n) * 2 ^ s ∧ (x &&& msk s n) < 2 ^ (2 * s * n) := by
  intro x
  have h : (x &&& msk s n) < 2 ^ (2 * s * n) := by
    induction n generalizing x with
    | zero => simp [msk]
    | succ n ih =>
      rw [and_msk_step]
      have a := ih (x / 2 ^ (2 * s))
      have b := Nat.mod_lt x (Nat.two_pow_pos s)
      have c := two_pow_le s (2 * s) (by omega)
      rw [show 2 * s * (n + 1) = 2 * s + 2 * s * n by rw [Nat.mul_add]; omega, Nat.pow_add]
      calc x % 2 ^ s + 2 ^ (2 * s) * ((x / 2 ^ (2 * s)) &&& msk s n) < 2 ^ (2 * s) + 2 ^ (2 * s) * ((x / 2 ^ (2 * s)) &&& msk s n) := by omega
        _ = 2 ^ (2 * s) * (((x / 2 ^ (2 * s)) &&& msk s n) + 1) := by rw [Nat.mul_add]; omega
        _ ≤ 2 ^ (2 * s) * 2 ^ (2 * s * n) := Nat.mul_le_mul_left _ (by omega)
  exact ⟨Nat.mul_lt_mul_of_pos_right h (Nat.two_pow_pos _), h⟩

/-- x has n digits to the base B, none above b -/
def dle (B b : Nat) : Nat → Nat → Prop
  | 0, x => x = 0
  | n + 1, x => x % B ≤ b ∧ dle B b n (x / B)

theorem dle_two : ∀ (n x : Nat), x < 2 ^ n → dle 2 1 n x
  | 0, x, h => by simp at h; exact h
  | n + 1, x, h => ⟨by omega, dle_two n (x / 2) (by rw [Nat.pow_succ] at h; omega)⟩

def prs (s n x : Nat) : Nat := ((x / 2 ^ s) &&& msk s n) + (x &&& msk s n)
theorem prs_step (s n x : Nat) : prs s (n + 1) x = ((x / 2 ^ s) % 2 ^ s + x % 2 ^ s) + 2 ^ (2 * s) * prs s n (x / 2 ^ (2 * s)) := by
  unfold prs
  rw [and_msk_step s n x, and_msk_step s n (x / 2 ^ s), Nat.div_div_eq_div_mul x (2 ^ s), Nat.mul_comm (2 ^ s) (2 ^ (2 * s)), ← Nat.div_div_eq_div_mul x, Nat.mul_add]
  omega
theorem prs_dle (s b : Nat) (hb : 2 * b < 2 ^ (2 * s)) : ∀ (n x : Nat), dle (2 ^ s) b (2 * n) x → dle (2 ^ (2 * s)) (2 * b) n (prs s n x)
  | 0, x, _ => by simp [dle, prs, msk]
  | n + 1, x, h => by
    rw [show 2 * (n + 1) = 2 * n + 1 + 1 by omega] at h
    obtain ⟨h1, h2, h3⟩ := h
    have hB : (2 : Nat) ^ (2 * s) = 2 ^ s * 2 ^ s := by rw [← Nat.pow_add]; congr 1; omega
    rw [Nat.div_div_eq_div_mul, ← hB] at h3
    have ih := prs_dle s b hb n _ h3
    rw [prs_step]
    have hlow : (x / 2 ^ s) % 2 ^ s + x % 2 ^ s < 2 ^ (2 * s) := by omega
    refine ⟨?_, ?_⟩
    · rw [Nat.add_mul_mod_self_left, Nat.mod_eq_of_lt hlow]; omega
    · rw [Nat.add_mul_div_left _ _ (Nat.two_pow_pos _), Nat.div_eq_of_lt hlow, Nat.zero_add]; exact ih

/-- the third step adds first, and masks then -/
theorem third (n : Nat) : ∀ y : Nat, dle 16 4 (2 * n) y → (y / 16 + y) &&& msk 4 n = prs 4 n y := by
  induction n with
  | zero => intro y _; simp [prs, msk]
  | succ n ih =>
    intro y h
    rw [show 2 * (n + 1) = 2 * n + 1 + 1 by omega] at h
    obtain ⟨h1, h2, h3⟩ := h
    have h4 : y / 16 / 16 % 16 ≤ 4 := by
      cases n with
      | zero => simp [dle] at h3; omega
      | succ m => rw [show 2 * (m + 1) = 2 * m + 1 + 1 by omega] at h3; exact h3.1
    rw [Nat.div_div_eq_div_mul] at h3
    have i := ih _ h3
    rw [and_msk_step, prs_step]
    simp only [show (2 : Nat) ^ 4 = 16 from rfl, show (2 : Nat) ^ (2 * 4) = 256 from rfl, show 16 * 16 = 256 from rfl] at i ⊢
    rw [← i]
    have e1 : (y / 16 + y) % 16 = y / 16 % 16 + y % 16 := by omega
    have e2 : (y / 16 + y) / 256 = y / 256 / 16 + y / 256 := by
      rw [Nat.div_div_eq_div_mul] at h4
      have g1 := Nat.mod_add_div y 16
      have g2 := Nat.mod_add_div (y / 16) 16
      have g3 := Nat.mod_add_div (y / 256) 16
      rw [Nat.div_div_eq_div_mul] at g2 g3
      simp only [show 16 * 16 = 256 from rfl, show 256 * 16 = 4096 from rfl] at g2 g3 h4
      obtain ⟨d0, H0⟩ : ∃ d, d = y % 16 := ⟨_, rfl⟩
      obtain ⟨d1, H1⟩ : ∃ d, d = y / 16 % 16 := ⟨_, rfl⟩
      obtain ⟨d2, H2⟩ : ∃ d, d = y / 256 % 16 := ⟨_, rfl⟩
      obtain ⟨t, H3⟩ : ∃ d, d = y / 4096 := ⟨_, rfl⟩
      rw [← H0] at h1 g1; rw [← H1] at h2 g2; rw [← H2] at h4 g3; rw [← H3] at g3
      have Y : y = d0 + 16 * d1 + 256 * d2 + 4096 * t := by rw [← g1, ← g2, ← g3]; omega
      clear g1 g2 g3
      clear H0 H1 H2 H3 e1 i h3 ih
      subst Y
      have a1 : (d0 + 16 * d1 + 256 * d2 + 4096 * t) / 16 = d1 + 16 * d2 + 256 * t := by omega
      have a2 : (d0 + 16 * d1 + 256 * d2 + 4096 * t) / 256 = d2 + 16 * t := by omega
      have a3 : (d2 + 16 * t) / 16 = t := by omega
      rw [a1, a2, a3]
      omega
    rw [e1, e2]

theorem last (x : Nat) (h : dle 256 8 8 x) : ((x + x / 256) + (x + x / 256) / 65536 + ((x + x / 256) + (x + x / 256) / 65536) / 4294967296) % 128 = ds 256 8 x ∧
    ((x + x / 256) + (x + x / 256) / 65536 + ((x + x / 256) + (x + x / 256) / 65536) / 4294967296) < 2 ^ 64 := by
  simp only [dle, Nat.div_div_eq_div_mul] at h
  simp only [ds, Nat.div_div_eq_div_mul]
  simp only [Nat.reduceMul] at h ⊢
  obtain ⟨h0, h1, h2, h3, h4, h5, h6, h7, h8⟩ := h
  obtain ⟨e0, E0⟩ : ∃ e, e = x % 256 := ⟨_, rfl⟩
  obtain ⟨e1, E1⟩ : ∃ e, e = x / 256 % 256 := ⟨_, rfl⟩
  obtain ⟨e2, E2⟩ : ∃ e, e = x / 65536 % 256 := ⟨_, rfl⟩
  obtain ⟨e3, E3⟩ : ∃ e, e = x / 16777216 % 256 := ⟨_, rfl⟩
  obtain ⟨e4, E4⟩ : ∃ e, e = x / 4294967296 % 256 := ⟨_, rfl⟩
  obtain ⟨e5, E5⟩ : ∃ e, e = x / 1099511627776 % 256 := ⟨_, rfl⟩
  obtain ⟨e6, E6⟩ : ∃ e, e = x / 281474976710656 % 256 := ⟨_, rfl⟩
  obtain ⟨e7, E7⟩ : ∃ e, e = x / 72057594037927936 % 256 := ⟨_, rfl⟩
  rw [← E0] at h0; rw [← E1] at h1; rw [← E2] at h2; rw [← E3] at h3; rw [← E4] at h4; rw [← E5] at h5; rw [← E6] at h6; rw [← E7] at h7
  rw [← E0, ← E1, ← E2, ← E3, ← E4, ← E5, ← E6, ← E7]
  have X : x = e0 + 256 * e1 + 65536 * e2 + 16777216 * e3 + 4294967296 * e4 + 1099511627776 * e5 + 281474976710656 * e6 + 72057594037927936 * e7 := by omega
  clear E0 E1 E2 E3 E4 E5 E6 E7 h8
  have A : x + x / 256 = (e0 + e1) + 256 * (e1 + e2) + 65536 * (e2 + e3) + 16777216 * (e3 + e4) + 4294967296 * (e4 + e5) + 1099511627776 * (e5 + e6) + 281474976710656 * (e6 + e7) + 72057594037927936 * e7 := by omega
  rw [A]
  clear A X
  have B : ((e0 + e1) + 256 * (e1 + e2) + 65536 * (e2 + e3) + 16777216 * (e3 + e4) + 4294967296 * (e4 + e5) + 1099511627776 * (e5 + e6) + 281474976710656 * (e6 + e7) + 72057594037927936 * e7) / 65536 =
    (e2 + e3) + 256 * (e3 + e4) + 65536 * (e4 + e5) + 16777216 * (e5 + e6) + 4294967296 * (e6 + e7) + 1099511627776 * e7 := by omega
  rw [B]
  clear B
  have C : ((e0 + e1) + 256 * (e1 + e2) + 65536 * (e2 + e3) + 16777216 * (e3 + e4) + 4294967296 * (e4 + e5) + 1099511627776 * (e5 + e6) + 281474976710656 * (e6 + e7) + 72057594037927936 * e7 +
      ((e2 + e3) + 256 * (e3 + e4) + 65536 * (e4 + e5) + 16777216 * (e5 + e6) + 4294967296 * (e6 + e7) + 1099511627776 * e7)) =
      (e0 + e1 + e2 + e3) + 256 * (e1 + e2 + e3 + e4) + 65536 * (e2 + e3 + e4 + e5) + 16777216 * (e3 + e4 + e5 + e6) + 4294967296 * ((e4 + e5 + e6 + e7) + 256 * (e5 + e6 + e7) + 65536 * (e6 + e7) + 16777216 * e7) := by omega
  rw [C]
  clear C
  have D : ((e0 + e1 + e2 + e3) + 256 * (e1 + e2 + e3 + e4) + 65536 * (e2 + e3 + e4 + e5) + 16777216 * (e3 + e4 + e5 + e6) + 4294967296 * ((e4 + e5 + e6 + e7) + 256 * (e5 + e6 + e7) + 65536 * (e6 + e7) + 16777216 * e7)) / 4294967296 =
      (e4 + e5 + e6 + e7) + 256 * (e5 + e6 + e7) + 65536 * (e6 + e7) + 16777216 * e7 := by omega
  rw [D]
  clear D
  constructor <;> omega

theorem mskA : msk 1 32 = 6148914691236517205 := by decide +kernel
theorem mskB : msk 2 16 = 3689348814741910323 := by decide +kernel
theorem mskC : msk 4 8 = 1085102592571150095 := by decide +kernel

/-- OnesCount64, as the library reckons it -/
def oc1 (x : Nat) : Nat := ((x / 2) &&& 6148914691236517205) + (x &&& 6148914691236517205)
def oc2 (x : Nat) : Nat := ((x / 4) &&& 3689348814741910323) + (x &&& 3689348814741910323)
def oc3 (x : Nat) : Nat := (x / 16 + x) &&& 1085102592571150095
theorem dle_lt (B b : Nat) (hb : b < B) : ∀ (n x : Nat), dle B b n x → x < B ^ n
  | 0, x, h => by simp [dle] at h; subst h; simp
  | n + 1, x, h => by
    have i := dle_lt B b hb n _ h.2
    rw [Nat.pow_succ]
    have hB : 0 < B := by omega
    exact (Nat.div_lt_iff_lt_mul hB).1 i
theorem dA (x : Nat) (h : dle 2 1 64 x) : dle 4 2 32 (prs 1 32 x) := by
  have := prs_dle 1 1 (by decide) 32 x
  simp only [Nat.reduceMul, Nat.reducePow] at this
  exact this h
theorem dB (x : Nat) (h : dle 4 2 32 x) : dle 16 4 16 (prs 2 16 x) := by
  have := prs_dle 2 2 (by decide) 16 x
  simp only [Nat.reduceMul, Nat.reducePow] at this
  exact this h
theorem dC (x : Nat) (h : dle 16 4 16 x) : dle 256 8 8 (prs 4 8 x) := by
  have := prs_dle 4 4 (by decide) 8 x
  simp only [Nat.reduceMul, Nat.reducePow] at this
  exact this h
theorem sA (x : Nat) : ds 4 32 (prs 1 32 x) = ds 2 64 x := by
  have := ds_pairs 1 32 (by decide) x
  simp only [Nat.reduceMul, Nat.reducePow] at this
  rw [← this, prs]
theorem sB (x : Nat) : ds 16 16 (prs 2 16 x) = ds 4 32 x := by
  have := ds_pairs 2 16 (by decide) x
  simp only [Nat.reduceMul, Nat.reducePow] at this
  rw [← this, prs]
theorem sC (x : Nat) : ds 256 8 (prs 4 8 x) = ds 16 16 x := by
  have := ds_pairs 4 8 (by decide) x
  simp only [Nat.reduceMul, Nat.reducePow] at this
  rw [← this, prs]
theorem key16 : ∀ (n y : Nat), dle 16 4 (n + 1) y → y < 5 * 16 ^ n := by
  intro n
  induction n with
  | zero => intro y h; obtain ⟨a, b⟩ := h; simp only [dle] at b; simp; omega
  | succ n ih => intro y h; have := ih _ h.2; have := h.1; rw [Nat.pow_succ]; omega
theorem oc_steps (x : Nat) (hx : x < 18446744073709551616) :
    oc1 x < 18446744073709551616 ∧ oc2 (oc1 x) < 18446744073709551616 ∧ oc2 (oc1 x) / 16 + oc2 (oc1 x) < 18446744073709551616 ∧ dle 256 8 8 (oc3 (oc2 (oc1 x))) ∧ ds 256 8 (oc3 (oc2 (oc1 x))) = pc 64 x := by
  have d0 : dle 2 1 64 x := dle_two 64 x hx
  have e1 : oc1 x = prs 1 32 x := by unfold oc1 prs; rw [mskA]
  have d1 := dA x d0
  have e2 : oc2 (prs 1 32 x) = prs 2 16 (prs 1 32 x) := by generalize prs 1 32 x = y; unfold oc2 prs; rw [mskB]
  have d2 := dB _ d1
  have e3 : oc3 (prs 2 16 (prs 1 32 x)) = prs 4 8 (prs 2 16 (prs 1 32 x)) := by
    unfold oc3
    rw [← third 8 _ d2, mskC]
  have d3 := dC _ d2
  have l1 : prs 1 32 x < 18446744073709551616 := by
    have h := dle_lt 4 2 (by decide) 32 _ d1
    simp only [Nat.reducePow] at h; exact h
  have l2 : prs 2 16 (prs 1 32 x) < 9223372036854775808 := by
    have h := key16 15 _ d2
    simp only [Nat.reducePow, Nat.reduceMul] at h; omega
  rw [e1, e2, e3]
  refine ⟨l1, by omega, by omega, d3, ?_⟩
  rw [sC, sB, sA]
  exact ds_two 64 x
theorem oc_last (x : Nat) (hx : x < 18446744073709551616) (z : Nat) (hz : z = oc3 (oc2 (oc1 x))) :
    ((z + z / 256) + (z + z / 256) / 65536 + ((z + z / 256) + (z + z / 256) / 65536) / 4294967296) % 128 = pc 64 x ∧
    ((z + z / 256) + (z + z / 256) / 65536 + ((z + z / 256) + (z + z / 256) / 65536) / 4294967296) < 18446744073709551616 := by
  obtain ⟨_, _, _, d, e⟩ := oc_steps x hx
  rw [← hz] at d e
  rw [← e]
  exact last z d

/-! ### lists of bits, the lowest one first -/
def fbits (n : Nat) (f : Nat → Bool) : List Bool := (List.range n).map f
def bitsL (n x : Nat) : List Bool := fbits n x.testBit
theorem length_fbits (n : Nat) (f : Nat → Bool) : (fbits n f).length = n := by simp [fbits]
theorem fbits_succ (n : Nat) (f : Nat → Bool) : fbits (n + 1) f = fbits n f ++ [f n] := by simp [fbits, List.range_succ]
theorem fbits_zero (f : Nat → Bool) : fbits 0 f = [] := rfl
theorem length_bitsL (n x : Nat) : (bitsL n x).length = n := length_fbits _ _
theorem bitsL_succ (n x : Nat) : bitsL (n + 1) x = bitsL n x ++ [x.testBit n] := fbits_succ _ _
theorem bit_div (x k : Nat) : (x / 2 ^ k % 2 == 1) = x.testBit k := by
  rw [Nat.testBit_eq_decide_div_mod_eq]
  by_cases h : x / 2 ^ k % 2 = 1 <;> simp [h]
theorem div_pow_succ (x k : Nat) : x / 2 ^ k / 2 = x / 2 ^ (k + 1) := by rw [Nat.div_div_eq_div_mul, Nat.pow_succ]
theorem fbits_getD (n : Nat) (f : Nat → Bool) (i : Nat) (h : i < n) : (fbits n f).getD i false = f i := by
  simp [fbits, h]
theorem fbits_get? (n : Nat) (f : Nat → Bool) (i : Nat) (h : i < n) : (fbits n f)[i]? = some (f i) := by
  simp [fbits, h]
theorem fbits_congr (n : Nat) (f g : Nat → Bool) (h : ∀ i, i < n → f i = g i) : fbits n f = fbits n g := by
  unfold fbits
  apply List.map_congr_left
  intro i hi
  exact h i (by simpa using hi)

def valL : List Bool → Nat
  | [] => 0
  | b :: bs => b.toNat + 2 * valL bs
theorem valL_lt : ∀ (l : List Bool), valL l < 2 ^ l.length
  | [] => by simp [valL]
  | b :: bs => by
    have := valL_lt bs
    have := Bool.toNat_le b
    simp only [valL, List.length_cons, Nat.pow_succ]
    omega
theorem valL_testBit : ∀ (l : List Bool) (i : Nat), (valL l).testBit i = l.getD i false
  | [], i => by simp [valL]
  | b :: bs, 0 => by
    simp only [valL, Nat.testBit_zero]
    cases b <;> simp <;> omega
  | b :: bs, i + 1 => by
    rw [Nat.testBit_succ]
    have e : valL (b :: bs) / 2 = valL bs := by
      simp only [valL]
      have := Bool.toNat_le b
      omega
    rw [e, valL_testBit bs i]
    simp
theorem valL_fbits (n : Nat) (f : Nat → Bool) : valL (fbits n f) = ofBits n f := by
  apply eq_of_bits n
  · have := valL_lt (fbits n f); rwa [length_fbits] at this
  · exact ofBits_lt _ _
  · intro i hi
    rw [valL_testBit, fbits_getD n f i hi, testBit_ofBits]; simp [hi]
theorem valL_bitsL (n x : Nat) (h : x < 2 ^ n) : valL (bitsL n x) = x := by
  unfold bitsL; rw [valL_fbits, ofBits_testBit n x h]
theorem valL_drop (l : List Bool) (i : Nat) (h : i < l.length) : valL (l.drop i) = (l.getD i false).toNat + 2 * valL (l.drop (i + 1)) := by
  rw [List.drop_eq_getElem_cons h]
  simp [valL, List.getD, h]
theorem valL_drop_lt (l : List Bool) (i : Nat) : valL (l.drop i) < 2 ^ (l.length - i) := by
  have := valL_lt (l.drop i); rwa [List.length_drop] at this

/-! ### comparing -/
/-- what the bits from i on say: a - b as one, nought or minus one -/
def cmpN (a b : Nat) : Int := if a < b then -1 else if a = b then 0 else 1
/-- the bits from i on are alike -/
def agree (a b : List Bool) (i : Nat) : Prop := ∀ j, i ≤ j → a.getD j false = b.getD j false
theorem agree_val (a b : List Bool) (h : agree a b 0) : valL a = valL b := by
  apply Nat.eq_of_testBit_eq
  intro i
  rw [valL_testBit, valL_testBit, h i (Nat.zero_le _)]
theorem lt_of_bits (a b i : Nat) (hb : b.testBit i = false) (ha : a.testBit i = true) (h : ∀ j, i < j → a.testBit j = b.testBit j) : b < a := by
  have e : a / 2 ^ (i + 1) = b / 2 ^ (i + 1) := by
    apply Nat.eq_of_testBit_eq
    intro j
    rw [Nat.testBit_div_two_pow, Nat.testBit_div_two_pow]
    exact h _ (by omega)
  rw [← div_pow_succ, ← div_pow_succ] at e
  rw [Nat.testBit_eq_decide_div_mod_eq] at ha hb
  have ha' : a / 2 ^ i % 2 = 1 := by simpa using ha
  have hb' : b / 2 ^ i % 2 = 0 := by have : b / 2 ^ i % 2 ≠ 1 := by simpa using hb
                                     omega
  have hlt : b / 2 ^ i < a / 2 ^ i := by omega
  exact Nat.lt_of_div_lt_div hlt
theorem differ_val (a b : List Bool) (i : Nat) (h : agree a b (i + 1)) (ha : a.getD i false = true) (hb : b.getD i false = false) : valL b < valL a := by
  apply lt_of_bits _ _ i
  · rw [valL_testBit]; exact hb
  · rw [valL_testBit]; exact ha
  · intro j hj; rw [valL_testBit, valL_testBit, h j hj]

/-! ### the places of the ones -/
def onesL (n x : Nat) : List Nat := (List.range n).filter x.testBit
theorem onesL_succ (n x : Nat) : onesL (n + 1) x = onesL n x ++ (if x.testBit n then [n] else []) := by
  unfold onesL
  rw [List.range_succ, List.filter_append]
  cases h : x.testBit n <;> simp [h]
theorem length_onesL : ∀ (n x : Nat), (onesL n x).length = pc n x
  | 0, _ => rfl
  | n + 1, x => by
    rw [onesL_succ, List.length_append, length_onesL n x]
    show _ = pc n x + _
    cases x.testBit n <;> simp
theorem onesL_le (n x : Nat) : (onesL n x).length ≤ n := by rw [length_onesL]; exact pc_le _ _
theorem onesL_congr : ∀ (n x y : Nat), (∀ i, i < n → x.testBit i = y.testBit i) → onesL n x = onesL n y
  | 0, _, _, _ => rfl
  | n + 1, x, y, h => by rw [onesL_succ, onesL_succ, onesL_congr n x y (fun i hi => h i (by omega)), h n (by omega)]
theorem onesL_skip (x c : Nat) : ∀ d, (∀ i, c ≤ i → i < c + d → x.testBit i = false) → onesL (c + d) x = onesL c x
  | 0, _ => rfl
  | d + 1, h => by
    rw [← Nat.add_assoc, onesL_succ, onesL_skip x c d (fun i h1 h2 => h i h1 (by omega)), h (c + d) (by omega) (by omega)]
    simp

/-- from below: y holds x's ones from t on; the ones below t have been told -/
def fromT (x t y : Nat) : Prop := ∀ i, y.testBit i = (x.testBit i && decide (t ≤ i))
theorem fromT_zero (x : Nat) : fromT x 0 x := fun i => by simp
theorem fromT_low (x t y c : Nat) (h : fromT x t y) (hc : lowAt y c) : t ≤ c ∧ x.testBit c = true ∧ onesL (c + 1) x = onesL t x ++ [c] ∧ fromT x (c + 1) (y &&& (y - 1)) := by
  have h1 := hc.1
  rw [h c, Bool.and_eq_true] at h1
  have ht : t ≤ c := by simpa using h1.2
  refine ⟨ht, h1.1, ?_, ?_⟩
  · rw [onesL_succ, h1.1]
    obtain ⟨d, rfl⟩ : ∃ d, c = t + d := ⟨c - t, by omega⟩
    rw [onesL_skip x t d (fun i h3 h4 => by
      have := hc.2 i h4
      rw [h i] at this
      simpa [h3] using this)]
    simp
  · intro i
    rw [testBit_clear y c hc i, h i]
    by_cases hi : i < c
    · have := hc.2 i hi
      rw [h i] at this
      rw [this]
      have : ¬ c + 1 ≤ i := by omega
      simp [this]
    · by_cases he : i = c
      · subst he
        have : ¬ i + 1 ≤ i := by omega
        simp [this]
      · have a : t ≤ i := by omega
        have b : c + 1 ≤ i := by omega
        simp [a, b, he]
theorem fromT_end (n x t : Nat) (hx : x < 2 ^ n) (h : fromT x t 0) : onesL n x = onesL t x := by
  have key : ∀ i, t ≤ i → x.testBit i = false := by
    intro i hi
    have := h i
    rw [Nat.zero_testBit] at this
    have hd : decide (t ≤ i) = true := by simp [hi]
    rw [hd, Bool.and_true] at this
    exact this.symm
  by_cases hn : t ≤ n
  · obtain ⟨d, rfl⟩ : ∃ d, n = t + d := ⟨n - t, by omega⟩
    exact onesL_skip x t d (fun i h1 _ => key i h1)
  · obtain ⟨d, rfl⟩ : ∃ d, t = n + d := ⟨t - n, by omega⟩
    exact (onesL_skip x n d (fun i h1 _ => testBit_hi n x i hx h1)).symm

/-- from above: y holds x's ones below t -/
def belowT (x t y : Nat) : Prop := ∀ i, y.testBit i = (x.testBit i && decide (i < t))
theorem belowT_start (n x : Nat) (hx : x < 2 ^ n) : belowT x n x := fun i => by
  by_cases hi : i < n
  · simp [hi]
  · rw [testBit_hi n x i hx (by omega)]; simp
theorem testBit_andNot (n y b i : Nat) (hy : y < 2 ^ n) (hb : b < 2 ^ n) : (y &&& (2 ^ n - 1 - b)).testBit i = (y.testBit i && !b.testBit i) := by
  rw [Nat.testBit_and]
  by_cases hi : i < n
  · rw [testBit_compl n b i hb hi]
  · rw [testBit_hi n y i hy (by omega)]; simp
theorem belowT_top (n x t y k : Nat) (hx : y < 2 ^ n) (h : belowT x t y) (hk : lenIs y (k + 1)) : k < t ∧ k < n ∧ x.testBit k = true ∧ onesL t x = onesL k x ++ [k] ∧ belowT x k (y &&& (2 ^ n - 1 - 2 ^ k)) := by
  have h1 : y.testBit k = true := by
    rcases hk.2 with h0 | h0
    · omega
    · simpa using h0
  have h1' := h1
  rw [h k, Bool.and_eq_true] at h1
  have ht : k < t := by simpa using h1.2
  have hn : k < n := by
    apply Nat.lt_of_not_le
    intro hle
    rw [testBit_hi n y k hx hle] at h1'; cases h1'
  refine ⟨ht, hn, h1.1, ?_, ?_⟩
  · obtain ⟨d, rfl⟩ : ∃ d, t = k + 1 + d := ⟨t - k - 1, by omega⟩
    rw [onesL_skip x (k + 1) d (fun i h3 h4 => by
      have := testBit_hi (k + 1) y i hk.1 h3
      rw [h i] at this
      simpa [h4] using this), onesL_succ, h1.1]
    simp
  · intro i
    rw [testBit_andNot n y _ i hx (two_pow_lt _ _ hn), h i, Nat.testBit_two_pow]
    by_cases hi : i < k
    · have a : i < t := by omega
      have b : ¬ k = i := by omega
      simp [hi, a, b]
    · by_cases he : k = i
      · subst he; simp
      · have := testBit_hi (k + 1) y i hk.1 (by omega)
        rw [h i] at this
        rw [this]
        simp [hi]
theorem belowT_end (x t : Nat) (h : belowT x t 0) : onesL t x = [] := by
  have key : ∀ d, d ≤ t → onesL d x = [] := by
    intro d
    induction d with
    | zero => intro _; rfl
    | succ d ih =>
      intro hd
      rw [onesL_succ, ih (by omega)]
      have := h d
      rw [Nat.zero_testBit] at this
      have hh : decide (d < t) = true := by simp; omega
      rw [hh, Bool.and_true] at this
      rw [← this]; simp
  exact key t (Nat.le_refl _)

/-! ### parity, the Gray code -/
theorem pc_xor_mod (n x y : Nat) : pc n (x ^^^ y) % 2 = (pc n x + pc n y) % 2 := by have := pc_xor n x y; omega
theorem pc_half (n x : Nat) (h : x < 2 ^ n) : pc n x = x % 2 + pc n (x / 2) := by
  cases n with
  | zero => simp at h; subst h; rfl
  | succ n =>
    have a : pc (n + 1) x = x % 2 + pc n (x / 2) := by
      rw [Nat.add_comm n 1, pc_add 1 n x]
      congr 1
      simp [pc, cnt, Nat.testBit_zero]
      rcases Nat.mod_two_eq_zero_or_one x with h | h <;> simp [h]
    have b : pc (n + 1) (x / 2) = pc n (x / 2) := pc_wider n 1 (x / 2) (by rw [Nat.pow_succ] at h; omega)
    omega
theorem xor_div (x y k : Nat) : (x ^^^ y) / 2 ^ k = (x / 2 ^ k) ^^^ (y / 2 ^ k) := by
  apply Nat.eq_of_testBit_eq
  intro i
  simp [Nat.testBit_div_two_pow]
theorem gray_bit (n x i : Nat) (h : x < 2 ^ n) : pc n ((x ^^^ x / 2) / 2 ^ i) % 2 = (x.testBit i).toNat := by
  have e : (x ^^^ x / 2) / 2 ^ i = x / 2 ^ i ^^^ x / 2 ^ i / 2 := by
    rw [xor_div, Nat.div_div_eq_div_mul, Nat.div_div_eq_div_mul, Nat.mul_comm]
  have hl : x / 2 ^ i < 2 ^ n := Nat.lt_of_le_of_lt (Nat.div_le_self _ _) h
  rw [e, pc_xor_mod]
  have a := pc_half n (x / 2 ^ i) hl
  have b : (x.testBit i).toNat = x / 2 ^ i % 2 := by
    rw [Nat.testBit_eq_decide_div_mod_eq]
    rcases Nat.mod_two_eq_zero_or_one (x / 2 ^ i) with h | h <;> simp [h]
  rw [b]
  omega
theorem pc_two_pow (n c : Nat) (h : c < n) : pc n (2 ^ c) = 1 :=
  (pc_one_iff n (2 ^ c) c (two_pow_lt _ _ h) (low_two_pow c)).2 rfl
theorem gray_ones (n c d : Nat) (hc : c < n) (hd : d = 2 ^ (c + 1) - 1) : pc n (d ^^^ d / 2) = 1 := by
  have : d ^^^ d / 2 = 2 ^ c := by
    apply Nat.eq_of_testBit_eq
    intro i
    have e : d / 2 = d / 2 ^ 1 := by simp
    rw [Nat.testBit_xor, e, Nat.testBit_div_two_pow, hd, Nat.testBit_two_pow_sub_one, Nat.testBit_two_pow_sub_one, Nat.testBit_two_pow]
    by_cases h1 : i = c
    · subst h1; simp
    · have h1' : ¬ c = i := by omega
      by_cases h2 : i < c
      · have a : i < c + 1 := by omega
        simp [a, h2, h1']
      · have a : ¬ i < c + 1 := by omega
        simp [a, h2, h1']
  rw [this]; exact pc_two_pow n c hc
theorem gray_next (n x : Nat) (hn : 0 < n) (h : x < 2 ^ n) : pc n ((x ^^^ x / 2) ^^^ ((x + 1) % 2 ^ n ^^^ (x + 1) % 2 ^ n / 2)) = 1 := by
  have e : (x ^^^ x / 2) ^^^ ((x + 1) % 2 ^ n ^^^ (x + 1) % 2 ^ n / 2) = (x ^^^ (x + 1) % 2 ^ n) ^^^ (x ^^^ (x + 1) % 2 ^ n) / 2 := by
    have := xor_div x ((x + 1) % 2 ^ n) 1
    simp only [Nat.pow_one] at this
    rw [this]
    apply Nat.eq_of_testBit_eq
    intro i
    simp only [Nat.testBit_xor]
    cases x.testBit i <;> cases ((x + 1) % 2 ^ n).testBit i <;> cases (x / 2).testBit i <;> cases ((x + 1) % 2 ^ n / 2).testBit i <;> rfl
  rw [e]
  by_cases hl : x + 1 = 2 ^ n
  · have hx : x = 2 ^ n - 1 := by omega
    apply gray_ones n (n - 1) _ (by omega)
    rw [hl, Nat.mod_self, Nat.xor_zero, show n - 1 + 1 = n by omega]
    exact hx
  · obtain ⟨c, hc⟩ := lowAt_exists (x + 1) (by omega)
    have hlt : x + 1 < 2 ^ n := by omega
    have hcn := lowAt_lt n _ c hlt hc
    apply gray_ones n c _ hcn
    rw [Nat.mod_eq_of_lt hlt]
    apply Nat.eq_of_testBit_eq
    intro i
    have hp := testBit_pred (x + 1) c hc i
    rw [Nat.add_sub_cancel] at hp
    rw [Nat.testBit_xor, Nat.testBit_two_pow_sub_one, hp]
    by_cases h1 : i < c
    · have a : i < c + 1 := by omega
      rw [hc.2 i h1]; simp [h1, a]
    · by_cases h2 : i = c
      · subst h2; rw [hc.1]; simp
      · have a : ¬ i < c + 1 := by omega
        simp [h1, h2, a]

/-- folding halves keeps the parity -/
theorem fold_half (k y : Nat) : pc k (y ^^^ y / 2 ^ k) % 2 = pc (k + k) y % 2 := by
  rw [pc_xor_mod, pc_add k k y]
theorem fold_bit (y : Nat) : y % 2 = pc 1 y := by
  simp [pc, cnt, Nat.testBit_zero]
  rcases Nat.mod_two_eq_zero_or_one y with h | h <;> simp [h]

/-! ### a narrower number turned round -/
theorem rev_narrow (n k x : Nat) : rev (n + k) x / 2 ^ k = rev n x := by
  apply eq_of_bits n
  · rw [Nat.div_lt_iff_lt_mul (Nat.two_pow_pos _), ← Nat.pow_add]; exact rev_lt _ _
  · exact rev_lt _ _
  · intro i hi
    rw [Nat.testBit_div_two_pow, testBit_rev (n + k) x _ (by omega), testBit_rev n x i hi]
    congr 1; omega
theorem rev_wide (n k x : Nat) (hx : x < 2 ^ n) : rev (n + k) x = rev n x * 2 ^ k := by
  apply eq_of_bits (n + k) _ _ (rev_lt _ _)
  · rw [Nat.pow_add]; exact Nat.mul_lt_mul_of_pos_right (rev_lt _ _) (Nat.two_pow_pos _)
  · intro i hi
    rw [testBit_rev (n + k) x i hi, Nat.testBit_mul_two_pow]
    by_cases h : k ≤ i
    · rw [testBit_rev n x _ (by omega)]
      simp [h]; congr 1; omega
    · rw [testBit_hi n x _ hx (by omega)]; simp [h]
theorem revB_wide (m k x : Nat) (hx : x < 2 ^ (8 * m)) : revB (8 * m + 8 * k) x = revB (8 * m) x * 2 ^ (8 * k) := by
  apply eq_of_bits (8 * m + 8 * k) _ _ (revB_lt _ _)
  · rw [Nat.pow_add]; exact Nat.mul_lt_mul_of_pos_right (revB_lt _ _) (Nat.two_pow_pos _)
  · intro i hi
    rw [testBit_revB _ x i hi, Nat.testBit_mul_two_pow]
    by_cases h : 8 * k ≤ i
    · rw [testBit_revB (8 * m) x _ (by omega)]
      simp [h]; congr 1; omega
    · rw [testBit_hi (8 * m) x _ hx (by omega)]; simp [h]
/-- the halves change places -/
theorem rev_halves (n x : Nat) : rev (n + n) x = (rev n (x % 2 ^ n) * 2 ^ n) ||| rev n (x / 2 ^ n) := by
  apply eq_of_bits (n + n) _ _ (rev_lt _ _)
  · exact Nat.or_lt_two_pow (by rw [Nat.pow_add]; exact Nat.mul_lt_mul_of_pos_right (rev_lt _ _) (Nat.two_pow_pos _)) (Nat.lt_of_lt_of_le (rev_lt _ _) (two_pow_le _ _ (by omega)))
  · intro i hi
    rw [testBit_rev _ x i hi, Nat.testBit_or, Nat.testBit_mul_two_pow]
    by_cases h : n ≤ i
    · rw [testBit_hi n (rev n (x / 2 ^ n)) i (rev_lt _ _) h, testBit_rev n _ _ (by omega), Nat.testBit_mod_two_pow]
      have a : n - 1 - (i - n) < n := by omega
      simp [h, a]; congr 1; omega
    · rw [testBit_rev n _ i (by omega), Nat.testBit_div_two_pow]
      simp [h]; congr 1; omega
theorem revB_halves (m x : Nat) : revB (8 * m + 8 * m) x = (revB (8 * m) (x % 2 ^ (8 * m)) * 2 ^ (8 * m)) ||| revB (8 * m) (x / 2 ^ (8 * m)) := by
  apply eq_of_bits (8 * m + 8 * m) _ _ (revB_lt _ _)
  · exact Nat.or_lt_two_pow (by rw [Nat.pow_add]; exact Nat.mul_lt_mul_of_pos_right (revB_lt _ _) (Nat.two_pow_pos _)) (Nat.lt_of_lt_of_le (revB_lt _ _) (two_pow_le _ _ (by omega)))
  · intro i hi
    rw [testBit_revB _ x i hi, Nat.testBit_or, Nat.testBit_mul_two_pow]
    by_cases h : 8 * m ≤ i
    · rw [testBit_hi (8 * m) (revB (8 * m) (x / 2 ^ (8 * m))) i (revB_lt _ _) h, testBit_revB (8 * m) _ _ (by omega), Nat.testBit_mod_two_pow]
      have a : 8 * m - 8 - 8 * ((i - 8 * m) / 8) + (i - 8 * m) % 8 < 8 * m := by omega
      simp [h, a]; congr 1; omega
    · rw [testBit_revB (8 * m) _ i (by omega), Nat.testBit_div_two_pow]
      simp [h]; congr 1; omega
theorem rotl_half (n x : Nat) (hn : 0 < n) (hx : x < 2 ^ (n + n)) : rotl (n + n) x n = (x % 2 ^ n * 2 ^ n) ||| (x / 2 ^ n) := by
  have hd : x / 2 ^ n < 2 ^ n := by rw [Nat.div_lt_iff_lt_mul (Nat.two_pow_pos _), ← Nat.pow_add]; exact hx
  apply eq_of_bits (n + n) _ _ (rotl_lt _ _ _)
  · exact Nat.or_lt_two_pow (by rw [Nat.pow_add]; exact Nat.mul_lt_mul_of_pos_right (Nat.mod_lt _ (Nat.two_pow_pos _)) (Nat.two_pow_pos _)) (Nat.lt_of_lt_of_le hd (two_pow_le _ _ (by omega)))
  · intro i hi
    rw [testBit_rotl _ x n i hi, Nat.testBit_or, Nat.testBit_mul_two_pow, Nat.testBit_mod_two_pow]
    by_cases h : n ≤ i
    · rw [testBit_hi n (x / 2 ^ n) i hd h, show i + (n + n - n) = (i - n) + (n + n) by omega, Nat.add_mod_right, Nat.mod_eq_of_lt (by omega)]
      have a : i - n < n := by omega
      simp [h, a]
    · rw [Nat.testBit_div_two_pow, Nat.mod_eq_of_lt (by omega)]
      simp [h]

/-! ### the bytes: turned round one by one -/
theorem bytes_step (m k x y : Nat) (hy : y = revB (8 * m) x) (hk : k < m) :
    (rev (8 * m) x % 2 ^ (8 * k)) ||| (rev 8 (y / 2 ^ (8 * k) % 256) * 2 ^ (8 * k)) = rev (8 * m) x % 2 ^ (8 * (k + 1)) := by
  apply Nat.eq_of_testBit_eq
  intro j
  rw [Nat.testBit_or, Nat.testBit_mod_two_pow, Nat.testBit_mod_two_pow, Nat.testBit_mul_two_pow]
  by_cases h1 : j < 8 * k
  · have a : j < 8 * (k + 1) := by omega
    have b : ¬ 8 * k ≤ j := by omega
    simp [h1, a, b]
  · have b : 8 * k ≤ j := by omega
    by_cases h2 : j < 8 * (k + 1)
    · rw [testBit_rev 8 _ _ (by omega), show (256 : Nat) = 2 ^ 8 from rfl, Nat.testBit_mod_two_pow, Nat.testBit_div_two_pow, hy, testBit_revB _ _ _ (by omega), testBit_rev _ _ j (by omega)]
      have c : 8 - 1 - (j - 8 * k) < 8 := by omega
      have d : (8 - 1 - (j - 8 * k) + 8 * k) / 8 = k := by omega
      have e : (8 - 1 - (j - 8 * k) + 8 * k) % 8 = 8 - 1 - (j - 8 * k) := by omega
      rw [d, e]
      simp [h1, h2, b, c]
      congr 1; omega
    · rw [testBit_hi 8 (rev 8 _) (j - 8 * k) (rev_lt _ _) (by omega)]
      simp [h1, h2]

/-! ### the bytes read from the other end -/
def readB (x : Nat) : Nat → Nat
  | 0 => 0
  | n + 1 => (readB x n * 256) ||| (x / 2 ^ (8 * n) % 256)
theorem readB_bits (x : Nat) : ∀ (n j : Nat), (readB x n).testBit j = (decide (j < 8 * n) && x.testBit (8 * (n - 1 - j / 8) + j % 8))
  | 0, j => by simp [readB]
  | n + 1, j => by
    show ((readB x n * 256) ||| (x / 2 ^ (8 * n) % 256)).testBit j = _
    rw [Nat.testBit_or, show (256 : Nat) = 2 ^ 8 from rfl, Nat.testBit_mul_two_pow, Nat.testBit_mod_two_pow, Nat.testBit_div_two_pow, readB_bits x n]
    by_cases h : 8 ≤ j
    · have a : ¬ j < 8 := by omega
      simp only [h, a, decide_true, decide_false, Bool.true_and, Bool.false_and, Bool.or_false]
      by_cases h2 : j < 8 * (n + 1)
      · have b : j - 8 < 8 * n := by omega
        simp only [h2, b, decide_true, Bool.true_and]
        congr 1; omega
      · have b : ¬ j - 8 < 8 * n := by omega
        simp [h2, b]
    · have a : j < 8 := by omega
      have b : j < 8 * (n + 1) := by omega
      simp only [h, a, b, decide_true, decide_false, Bool.true_and, Bool.false_and, Bool.false_or]
      congr 1; omega
theorem readB_lt (x n : Nat) : readB x n < 2 ^ (8 * n) := by
  apply Nat.lt_pow_two_of_testBit
  intro i hi
  rw [readB_bits]
  have : ¬ i < 8 * n := by omega
  simp [this]
theorem readB_eq (x n : Nat) : readB x n = revB (8 * n) (x % 2 ^ (8 * n)) := by
  apply eq_of_bits (8 * n) _ _ (readB_lt _ _) (revB_lt _ _)
  intro i hi
  rw [readB_bits, testBit_revB _ _ i hi, Nat.testBit_mod_two_pow]
  have a : 8 * n - 8 - 8 * (i / 8) + i % 8 < 8 * n := by omega
  simp only [hi, a, decide_true, Bool.true_and]
  congr 1; omega

/-! ### the parts of a set -/
def dep : Nat → Nat → Nat → Nat
  | 0, _, _ => 0
  | n + 1, m, k => if m % 2 = 1 then k % 2 + 2 * dep n (m / 2) (k / 2) else 2 * dep n (m / 2) k
theorem and_half (a b : Nat) : (a &&& b) = (a % 2) * (b % 2) + 2 * ((a / 2) &&& (b / 2)) := by
  have h := and_split 1 (a / 2) (b / 2) (a % 2) (b % 2) (by omega) (by omega)
  simp only [Nat.pow_one] at h
  rw [Nat.mod_add_div, Nat.mod_add_div] at h
  rw [h]
  rcases Nat.mod_two_eq_zero_or_one a with x | x <;> rcases Nat.mod_two_eq_zero_or_one b with y | y <;> rw [x, y] <;> rfl
theorem dep_sub : ∀ (n m k : Nat), dep n m k &&& m = dep n m k
  | 0, m, k => by simp [dep]
  | n + 1, m, k => by
    rw [and_half]
    unfold dep
    split
    · rename_i h
      have e1 : (k % 2 + 2 * dep n (m / 2) (k / 2)) % 2 = k % 2 := by omega
      have e2 : (k % 2 + 2 * dep n (m / 2) (k / 2)) / 2 = dep n (m / 2) (k / 2) := by omega
      rw [e1, e2, h, dep_sub n]; omega
    · rename_i h
      have h' : m % 2 = 0 := by omega
      have e2 : (2 * dep n (m / 2) k) / 2 = dep n (m / 2) k := by omega
      rw [e2, h', dep_sub n]; omega
theorem dep_zero : ∀ (n m : Nat), dep n m 0 = 0
  | 0, _ => rfl
  | n + 1, m => by unfold dep; simp [dep_zero n]
theorem pc_step (n x : Nat) : pc (n + 1) x = x % 2 + pc n (x / 2) := by
  rw [Nat.add_comm n 1, pc_add 1 n x]
  congr 1
  simp [pc, cnt, Nat.testBit_zero]
  rcases Nat.mod_two_eq_zero_or_one x with h | h <;> simp [h]
theorem dep_pos : ∀ (n m k : Nat), k < 2 ^ pc n m → k ≠ 0 → dep n m k ≠ 0
  | 0, m, k, h, h0 => by simp [pc, cnt] at h; omega
  | n + 1, m, k, h, h0 => by
    rw [pc_step] at h
    unfold dep
    split
    · rename_i hm
      rw [hm, Nat.add_comm, Nat.pow_succ] at h
      by_cases hk : k % 2 = 1
      · omega
      · have := dep_pos n (m / 2) (k / 2) (by omega) (by omega)
        omega
    · rename_i hm
      have hm' : m % 2 = 0 := by omega
      rw [hm', Nat.zero_add] at h
      have := dep_pos n (m / 2) k h h0
      omega
theorem dep_pred : ∀ (n m k : Nat), k < 2 ^ pc n m → k ≠ 0 → (dep n m k - 1) &&& m = dep n m (k - 1)
  | 0, m, k, h, h0 => by simp [pc, cnt] at h; omega
  | n + 1, m, k, h, h0 => by
    rw [pc_step] at h
    rw [and_half]
    unfold dep
    split
    · rename_i hm
      rw [hm, Nat.add_comm, Nat.pow_succ] at h
      rw [hm]
      by_cases hk : k % 2 = 1
      · have a := dep_sub n (m / 2) (k / 2)
        have e1 : (k % 2 + 2 * dep n (m / 2) (k / 2) - 1) % 2 = 0 := by omega
        have e2 : (k % 2 + 2 * dep n (m / 2) (k / 2) - 1) / 2 = dep n (m / 2) (k / 2) := by omega
        have e3 : (k - 1) % 2 = 0 := by omega
        have e4 : (k - 1) / 2 = k / 2 := by omega
        rw [e1, e2, e3, e4, a]
      · have p := dep_pos n (m / 2) (k / 2) (by omega) (by omega)
        have a := dep_pred n (m / 2) (k / 2) (by omega) (by omega)
        have e1 : (k % 2 + 2 * dep n (m / 2) (k / 2) - 1) % 2 = 1 := by omega
        have e2 : (k % 2 + 2 * dep n (m / 2) (k / 2) - 1) / 2 = dep n (m / 2) (k / 2) - 1 := by omega
        have e3 : (k - 1) % 2 = 1 := by omega
        have e4 : (k - 1) / 2 = k / 2 - 1 := by omega
        rw [e1, e2, e3, e4, a]
    · rename_i hm
      have hm' : m % 2 = 0 := by omega
      rw [hm', Nat.zero_add] at h
      have p := dep_pos n (m / 2) k h h0
      have a := dep_pred n (m / 2) k h h0
      have e2 : (2 * dep n (m / 2) k - 1) / 2 = dep n (m / 2) k - 1 := by omega
      rw [hm', e2, a]; omega
theorem dep_full : ∀ (n m : Nat), m < 2 ^ n → dep n m (2 ^ pc n m - 1) = m
  | 0, m, h => by simp at h; subst h; rfl
  | n + 1, m, h => by
    have ih := dep_full n (m / 2) (by rw [Nat.pow_succ] at h; omega)
    have hp := Nat.two_pow_pos (pc n (m / 2))
    rw [pc_step]
    unfold dep
    split
    · rename_i hm
      have e1 : (2 ^ (m % 2 + pc n (m / 2)) - 1) % 2 = 1 := by rw [hm, Nat.add_comm, Nat.pow_succ]; omega
      have e2 : (2 ^ (m % 2 + pc n (m / 2)) - 1) / 2 = 2 ^ pc n (m / 2) - 1 := by rw [hm, Nat.add_comm, Nat.pow_succ]; omega
      rw [e1, e2, ih]; omega
    · rename_i hm
      have hm' : m % 2 = 0 := by omega
      rw [hm', Nat.zero_add, ih]; omega

end Go.Lathe
