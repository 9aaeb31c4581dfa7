/-
  More plain facts on Go's operations on unsigned numbers: shifts.
-/
import Derived.Test.YtmlkdpgfjhabcaaDoorBits
namespace Go.Lathe
theorem rotl_back (n x m : Nat) (hx : x < 2 ^ n) (hm : m < n) : (x / 2 ^ m) ||| (x * 2 ^ (n - m) % 2 ^ n) = rotl n x ((n - m) % n) := by
  by_cases h0 : m = 0
  · subst h0
    rw [Nat.sub_zero, Nat.mod_self, rotl_zero n x hx, Nat.mul_mod_left]
    simp
  · rw [Nat.mod_eq_of_lt (show n - m < n by omega)]
    have := rotl_shifts n x (n - m) hx (by omega)
    rw [show n - (n - m) = m by omega] at this
    rw [← this, Nat.or_comm]
theorem shA_u8 (x m : Nat) (hx : x < 256) (hm : m < 8) : bits .or .u8 ((x : Int) * 2 ^ m % 256) ((x : Int) / 2 / 2 ^ (7 - m)) = ((rotl 8 x m : Nat) : Int) := by
  have e : (x : Int) / 2 / 2 ^ (7 - m) = (x : Int) / 2 ^ (8 - m) := by
    have h : x / 2 / 2 ^ (7 - m) = x / 2 ^ (8 - m) := by
      rw [Nat.div_div_eq_div_mul, show 8 - m = (7 - m) + 1 by omega, Nat.pow_succ, Nat.mul_comm]
    have a : ((x / 2 / 2 ^ (7 - m) : Nat) : Int) = (x : Int) / 2 / 2 ^ (7 - m) := by simp
    have b : ((x / 2 ^ (8 - m) : Nat) : Int) = (x : Int) / 2 ^ (8 - m) := by simp
    rw [← a, ← b, h]
  rw [e]
  exact rotm_u8 x m hx hm
theorem shB_u8 (x m : Nat) (hx : x < 256) (hm : m < 8) : bits .or .u8 ((x : Int) / 2 ^ m) ((x : Int) * 2 % 256 * 2 ^ (7 - m) % 256) = ((rotl 8 x ((8 - m) % 8) : Nat) : Int) := by
  have e1 : ((x : Int) / 2 ^ m) = ((x / 2 ^ m : Nat) : Int) := by simp
  have e2 : (x : Int) * 2 % 256 * 2 ^ (7 - m) % 256 = ((x * 2 ^ (8 - m) % 256 : Nat) : Int) := by
    have h : x * 2 ^ (8 - m) % 256 = x * 2 % 256 * 2 ^ (7 - m) % 256 := by
      rw [Nat.mod_mul_mod, Nat.mul_assoc]
      congr 2
      rw [Nat.mul_comm, ← Nat.pow_succ]
      congr 1; omega
    rw [h]
    skip
    rw [Int.natCast_emod, Int.natCast_mul, Int.natCast_emod, Int.natCast_mul, Int.natCast_pow]
    rfl
  have l1 : x / 2 ^ m < 256 := Nat.lt_of_le_of_lt (Nat.div_le_self _ _) hx
  rw [e1, e2, u8_or_nat _ _ l1 (Nat.mod_lt _ (by decide))]
  have := rotl_back 8 x m hx hm
  rw [show (2 : Nat) ^ 8 = 256 from rfl] at this
  rw [this]
theorem shA_u16 (x m : Nat) (hx : x < 65536) (hm : m < 16) : bits .or .u16 (IntKind.u16.wrap ((x : Int) * 2 ^ m)) ((x : Int) / 2 / 2 ^ (15 - m)) = ((rotl 16 x m : Nat) : Int) := by
  have e : (x : Int) / 2 / 2 ^ (15 - m) = (x : Int) / 2 ^ (16 - m) := by
    have h : x / 2 / 2 ^ (15 - m) = x / 2 ^ (16 - m) := by
      rw [Nat.div_div_eq_div_mul, show 16 - m = (15 - m) + 1 by omega, Nat.pow_succ, Nat.mul_comm]
    have a : ((x / 2 / 2 ^ (15 - m) : Nat) : Int) = (x : Int) / 2 / 2 ^ (15 - m) := by simp
    have b : ((x / 2 ^ (16 - m) : Nat) : Int) = (x : Int) / 2 ^ (16 - m) := by simp
    rw [← a, ← b, h]
  rw [e]
  exact rotw_u16 x m hx hm
theorem shB_u16 (x m : Nat) (hx : x < 65536) (hm : m < 16) : bits .or .u16 ((x : Int) / 2 ^ m) (IntKind.u16.wrap (IntKind.u16.wrap ((x : Int) * 2) * 2 ^ (15 - m))) = ((rotl 16 x ((16 - m) % 16) : Nat) : Int) := by
  have e1 : ((x : Int) / 2 ^ m) = ((x / 2 ^ m : Nat) : Int) := by simp
  have e2 : IntKind.u16.wrap (IntKind.u16.wrap ((x : Int) * 2) * 2 ^ (15 - m)) = ((x * 2 ^ (16 - m) % 65536 : Nat) : Int) := by
    have h : x * 2 ^ (16 - m) % 65536 = x * 2 % 65536 * 2 ^ (15 - m) % 65536 := by
      rw [Nat.mod_mul_mod, Nat.mul_assoc]
      congr 2
      rw [Nat.mul_comm, ← Nat.pow_succ]
      congr 1; omega
    rw [h]
    rw [wrapw_u16, wrapw_u16]
    rw [Int.natCast_emod, Int.natCast_mul, Int.natCast_emod, Int.natCast_mul, Int.natCast_pow]
    rfl
  have l1 : x / 2 ^ m < 65536 := Nat.lt_of_le_of_lt (Nat.div_le_self _ _) hx
  rw [e1, e2, u16_or_nat _ _ l1 (Nat.mod_lt _ (by decide))]
  have := rotl_back 16 x m hx hm
  rw [show (2 : Nat) ^ 16 = 65536 from rfl] at this
  rw [this]
theorem shA_u32 (x m : Nat) (hx : x < 4294967296) (hm : m < 32) : bits .or .u32 ((x : Int) * 2 ^ m % 4294967296) ((x : Int) / 2 / 2 ^ (31 - m)) = ((rotl 32 x m : Nat) : Int) := by
  have e : (x : Int) / 2 / 2 ^ (31 - m) = (x : Int) / 2 ^ (32 - m) := by
    have h : x / 2 / 2 ^ (31 - m) = x / 2 ^ (32 - m) := by
      rw [Nat.div_div_eq_div_mul, show 32 - m = (31 - m) + 1 by omega, Nat.pow_succ, Nat.mul_comm]
    have a : ((x / 2 / 2 ^ (31 - m) : Nat) : Int) = (x : Int) / 2 / 2 ^ (31 - m) := by simp
    have b : ((x / 2 ^ (32 - m) : Nat) : Int) = (x : Int) / 2 ^ (32 - m) := by simp
    rw [← a, ← b, h]
  rw [e]
  exact rotm_u32 x m hx hm
theorem shB_u32 (x m : Nat) (hx : x < 4294967296) (hm : m < 32) : bits .or .u32 ((x : Int) / 2 ^ m) ((x : Int) * 2 % 4294967296 * 2 ^ (31 - m) % 4294967296) = ((rotl 32 x ((32 - m) % 32) : Nat) : Int) := by
  have e1 : ((x : Int) / 2 ^ m) = ((x / 2 ^ m : Nat) : Int) := by simp
  have e2 : (x : Int) * 2 % 4294967296 * 2 ^ (31 - m) % 4294967296 = ((x * 2 ^ (32 - m) % 4294967296 : Nat) : Int) := by
    have h : x * 2 ^ (32 - m) % 4294967296 = x * 2 % 4294967296 * 2 ^ (31 - m) % 4294967296 := by
      rw [Nat.mod_mul_mod, Nat.mul_assoc]
      congr 2
      rw [Nat.mul_comm, ← Nat.pow_succ]
      congr 1; omega
    rw [h]
    skip
    rw [Int.natCast_emod, Int.natCast_mul, Int.natCast_emod, Int.natCast_mul, Int.natCast_pow]
    rfl
  have l1 : x / 2 ^ m < 4294967296 := Nat.lt_of_le_of_lt (Nat.div_le_self _ _) hx
  rw [e1, e2, u32_or_nat _ _ l1 (Nat.mod_lt _ (by decide))]
  have := rotl_back 32 x m hx hm
  rw [show (2 : Nat) ^ 32 = 4294967296 from rfl] at this
  rw [this]
theorem shA_u64 (x m : Nat) (hx : x < 18446744073709551616) (hm : m < 64) : bits .or .u64 (IntKind.u64.wrap ((x : Int) * 2 ^ m)) ((x : Int) / 2 / 2 ^ (63 - m)) = ((rotl 64 x m : Nat) : Int) := by
  have e : (x : Int) / 2 / 2 ^ (63 - m) = (x : Int) / 2 ^ (64 - m) := by
    have h : x / 2 / 2 ^ (63 - m) = x / 2 ^ (64 - m) := by
      rw [Nat.div_div_eq_div_mul, show 64 - m = (63 - m) + 1 by omega, Nat.pow_succ, Nat.mul_comm]
    have a : ((x / 2 / 2 ^ (63 - m) : Nat) : Int) = (x : Int) / 2 / 2 ^ (63 - m) := by simp
    have b : ((x / 2 ^ (64 - m) : Nat) : Int) = (x : Int) / 2 ^ (64 - m) := by simp
    rw [← a, ← b, h]
  rw [e]
  exact rotw_u64 x m hx hm
theorem shB_u64 (x m : Nat) (hx : x < 18446744073709551616) (hm : m < 64) : bits .or .u64 ((x : Int) / 2 ^ m) (IntKind.u64.wrap (IntKind.u64.wrap ((x : Int) * 2) * 2 ^ (63 - m))) = ((rotl 64 x ((64 - m) % 64) : Nat) : Int) := by
  have e1 : ((x : Int) / 2 ^ m) = ((x / 2 ^ m : Nat) : Int) := by simp
  have e2 : IntKind.u64.wrap (IntKind.u64.wrap ((x : Int) * 2) * 2 ^ (63 - m)) = ((x * 2 ^ (64 - m) % 18446744073709551616 : Nat) : Int) := by
    have h : x * 2 ^ (64 - m) % 18446744073709551616 = x * 2 % 18446744073709551616 * 2 ^ (63 - m) % 18446744073709551616 := by
      rw [Nat.mod_mul_mod, Nat.mul_assoc]
      congr 2
      rw [Nat.mul_comm, ← Nat.pow_succ]
      congr 1; omega
    rw [h]
    rw [wrapw_u64, wrapw_u64]
    rw [Int.natCast_emod, Int.natCast_mul, Int.natCast_emod, Int.natCast_mul, Int.natCast_pow]
    rfl
  have l1 : x / 2 ^ m < 18446744073709551616 := Nat.lt_of_le_of_lt (Nat.div_le_self _ _) hx
  rw [e1, e2, u64_or_nat _ _ l1 (Nat.mod_lt _ (by decide))]
  have := rotl_back 64 x m hx hm
  rw [show (2 : Nat) ^ 64 = 18446744073709551616 from rfl] at this
  rw [this]
theorem tz_low (n x : Nat) (h0 : x ≠ 0) (h : x < 2 ^ n) : x &&& (2 ^ n - x) = 2 ^ tz n x ∧ tz n x < n := Lib.lowest_bit n x h0 h
theorem len_rev_tz (n x : Nat) (h : x < 2 ^ n) : len (rev n x) = n - tz n x := by
  by_cases h0 : x = 0
  · subst h0; rw [rev_zero, tz_zero]; simp [len]
  · exact len_eq _ _ (lenIs_rev n x _ h (lowAt_tz n x h0 h))
theorem pc_pow_pred (n c : Nat) (h : c ≤ n) : pc n (2 ^ c - 1) = c := by
  obtain ⟨d, rfl⟩ : ∃ d, n = c + d := ⟨n - c, by omega⟩
  rw [pc_wider c d _ (by have := Nat.two_pow_pos c; omega), pc_ones]
theorem neg_u8 (x : Nat) (hx : x < 256) (h0 : x ≠ 0) : -(x : Int) % 256 = ((256 - x : Nat) : Int) := by
  skip
  omega
theorem low_u8 (x : Nat) (hx : x < 256) : bits .and .u8 (x : Int) (-(x : Int) % 256) = ((if x = 0 then 0 else 2 ^ tz 8 x : Nat) : Int) := by
  by_cases h0 : x = 0
  · subst h0
    rfl
  · rw [neg_u8 x hx h0, u8_and_nat x _ hx (by omega), if_neg h0]
    have := (tz_low 8 x h0 hx).1
    rw [show (2 : Nat) ^ 8 = 256 from rfl] at this
    rw [this]
theorem pred_u8 (l : Nat) (hl : l < 256) : ((l : Int) - 1) % 256 = ((if l = 0 then 255 else l - 1 : Nat) : Int) := by
  skip
  split <;> omega
theorem pow_u8 (c : Nat) (h : c < 8) : 2 ^ c % 256 = ((2 ^ c : Nat) : Int) := by
  have := two_pow_lt c 8 h
  rw [show (2 : Nat) ^ 8 = 256 from rfl] at this
  skip
  have e : ((2 ^ c : Nat) : Int) = 2 ^ c := by simp
  rw [← e]
  generalize 2 ^ c = p at this ⊢
  omega
theorem neg_u16 (x : Nat) (hx : x < 65536) (h0 : x ≠ 0) : IntKind.u16.wrap (-(x : Int)) = ((65536 - x : Nat) : Int) := by
  rw [wrapw_u16]
  omega
theorem low_u16 (x : Nat) (hx : x < 65536) : bits .and .u16 (x : Int) (IntKind.u16.wrap (-(x : Int))) = ((if x = 0 then 0 else 2 ^ tz 16 x : Nat) : Int) := by
  by_cases h0 : x = 0
  · subst h0
    rfl
  · rw [neg_u16 x hx h0, u16_and_nat x _ hx (by omega), if_neg h0]
    have := (tz_low 16 x h0 hx).1
    rw [show (2 : Nat) ^ 16 = 65536 from rfl] at this
    rw [this]
theorem pred_u16 (l : Nat) (hl : l < 65536) : IntKind.u16.wrap ((l : Int) - 1) = ((if l = 0 then 65535 else l - 1 : Nat) : Int) := by
  rw [wrapw_u16]
  split <;> omega
theorem pow_u16 (c : Nat) (h : c < 16) : IntKind.u16.wrap (2 ^ c) = ((2 ^ c : Nat) : Int) := by
  have := two_pow_lt c 16 h
  rw [show (2 : Nat) ^ 16 = 65536 from rfl] at this
  rw [wrapw_u16]
  have e : ((2 ^ c : Nat) : Int) = 2 ^ c := by simp
  rw [← e]
  generalize 2 ^ c = p at this ⊢
  omega
theorem neg_u32 (x : Nat) (hx : x < 4294967296) (h0 : x ≠ 0) : -(x : Int) % 4294967296 = ((4294967296 - x : Nat) : Int) := by
  skip
  omega
theorem low_u32 (x : Nat) (hx : x < 4294967296) : bits .and .u32 (x : Int) (-(x : Int) % 4294967296) = ((if x = 0 then 0 else 2 ^ tz 32 x : Nat) : Int) := by
  by_cases h0 : x = 0
  · subst h0
    rfl
  · rw [neg_u32 x hx h0, u32_and_nat x _ hx (by omega), if_neg h0]
    have := (tz_low 32 x h0 hx).1
    rw [show (2 : Nat) ^ 32 = 4294967296 from rfl] at this
    rw [this]
theorem pred_u32 (l : Nat) (hl : l < 4294967296) : ((l : Int) - 1) % 4294967296 = ((if l = 0 then 4294967295 else l - 1 : Nat) : Int) := by
  skip
  split <;> omega
theorem pow_u32 (c : Nat) (h : c < 32) : 2 ^ c % 4294967296 = ((2 ^ c : Nat) : Int) := by
  have := two_pow_lt c 32 h
  rw [show (2 : Nat) ^ 32 = 4294967296 from rfl] at this
  skip
  have e : ((2 ^ c : Nat) : Int) = 2 ^ c := by simp
  rw [← e]
  generalize 2 ^ c = p at this ⊢
  omega
theorem neg_u64 (x : Nat) (hx : x < 18446744073709551616) (h0 : x ≠ 0) : IntKind.u64.wrap (-(x : Int)) = ((18446744073709551616 - x : Nat) : Int) := by
  rw [wrapw_u64]
  omega
theorem low_u64 (x : Nat) (hx : x < 18446744073709551616) : bits .and .u64 (x : Int) (IntKind.u64.wrap (-(x : Int))) = ((if x = 0 then 0 else 2 ^ tz 64 x : Nat) : Int) := by
  by_cases h0 : x = 0
  · subst h0
    rfl
  · rw [neg_u64 x hx h0, u64_and_nat x _ hx (by omega), if_neg h0]
    have := (tz_low 64 x h0 hx).1
    rw [show (2 : Nat) ^ 64 = 18446744073709551616 from rfl] at this
    rw [this]
theorem pred_u64 (l : Nat) (hl : l < 18446744073709551616) : IntKind.u64.wrap ((l : Int) - 1) = ((if l = 0 then 18446744073709551615 else l - 1 : Nat) : Int) := by
  rw [wrapw_u64]
  split <;> omega
theorem pow_u64 (c : Nat) (h : c < 64) : IntKind.u64.wrap (2 ^ c) = ((2 ^ c : Nat) : Int) := by
  have := two_pow_lt c 64 h
  rw [show (2 : Nat) ^ 64 = 18446744073709551616 from rfl] at this
  rw [wrapw_u64]
  have e : ((2 ^ c : Nat) : Int) = 2 ^ c := by simp
  rw [← e]
  generalize 2 ^ c = p at this ⊢
  omega
theorem powers (n x : Nat) (hx : x < 2 ^ n) (h0 : x ≠ 0) :
    (pc n x = 1 ↔ len x - 1 = tz n x) ∧ (pc n x = 1 ↔ x = 2 ^ len (x - 1)) ∧ x ≤ 2 ^ len (x - 1) ∧ (len (x - 1) = 0 ∨ 2 ^ (len (x - 1) - 1) < x) ∧ len (x - 1) ≤ n ∧ 1 ≤ len x ∧ (len (x - 1) = 0 → pc n x = 1) ∧ (len (x - 1) = n → pc n x ≠ 1) := by
  have hl := lowAt_tz n x h0 hx
  have p1 := pc_one_iff n x _ hx hl
  have hlx := lenIs_len x
  have hk := lenIs_len (x - 1)
  have hlt := hk.1
  have hne : len x ≠ 0 := fun e => h0 ((lenIs_zero_iff x _ hlx).1 e)
  have a1 : pc n x = 1 ↔ len x - 1 = tz n x := by
    rw [p1]
    constructor
    · intro e
      have : lenIs (2 ^ tz n x) (tz n x + 1) := lenIs_of_ge _ _ (two_pow_lt _ _ (by omega)) (Or.inr (Nat.le_refl _))
      rw [← e] at this
      rw [len_eq x _ this]; rfl
    · intro e
      have h1 := hlx.1
      rw [show len x = tz n x + 1 by omega, Nat.pow_succ] at h1
      obtain ⟨m, hm⟩ := lowAt_form x _ hl
      have : m = 0 := by
        apply Nat.eq_zero_of_not_pos
        intro hp
        have h2 : 2 ^ tz n x * 2 ≤ 2 ^ tz n x * (2 * m + 1) := Nat.mul_le_mul_left _ (by omega)
        omega
      subst this
      simpa using hm
  have a2 : pc n x = 1 ↔ x = 2 ^ len (x - 1) := by
    constructor
    · intro e
      have e' := p1.1 e
      have h1 : lenIs (2 ^ tz n x - 1) (tz n x) := lenIs_ones _
      rw [← e'] at h1
      rw [len_eq _ _ h1]; exact e'
    · intro e
      have h1 := low_two_pow (len (x - 1))
      rw [← e] at h1
      have := lowAt_unique x _ _ hl h1
      rw [p1, this]; exact e
  have a4 : len (x - 1) = 0 ∨ 2 ^ (len (x - 1) - 1) < x := by
    by_cases hz : len (x - 1) = 0
    · exact Or.inl hz
    · right
      have := lenIs_ge _ _ hk hz
      omega
  refine ⟨a1, a2, by omega, a4, len_le n _ (by omega), by omega, ?_, ?_⟩
  · intro e
    rw [a2, e]
    have := (lenIs_zero_iff _ _ hk).1 e
    simp; omega
  · intro e h
    have := a2.1 h
    rw [e] at this
    omega
theorem pk_u8 (k : Nat) (h : k ≤ 8) : 2 ^ k % 256 = ((if k = 8 then 0 else 2 ^ k : Nat) : Int) := by
  by_cases e : k = 8
  · subst e; rfl
  · rw [if_neg e]
    have := two_pow_lt k 8 (by omega)
    rw [show (2 : Nat) ^ 8 = 256 from rfl] at this
    skip
    have e : ((2 ^ k : Nat) : Int) = 2 ^ k := by simp
    rw [← e]
    generalize 2 ^ k = p at this ⊢
    omega
theorem pk1_u8 (k : Nat) (h : k ≤ 8) : 2 ^ (k - 1) % 256 = ((2 ^ (k - 1) : Nat) : Int) := by
  have := pow_u8 (k - 1) (by omega)
  exact this
theorem pk_u16 (k : Nat) (h : k ≤ 16) : IntKind.u16.wrap (2 ^ k) = ((if k = 16 then 0 else 2 ^ k : Nat) : Int) := by
  by_cases e : k = 16
  · subst e; rfl
  · rw [if_neg e]
    have := two_pow_lt k 16 (by omega)
    rw [show (2 : Nat) ^ 16 = 65536 from rfl] at this
    rw [wrapw_u16]
    have e : ((2 ^ k : Nat) : Int) = 2 ^ k := by simp
    rw [← e]
    generalize 2 ^ k = p at this ⊢
    omega
theorem pk1_u16 (k : Nat) (h : k ≤ 16) : IntKind.u16.wrap (2 ^ (k - 1)) = ((2 ^ (k - 1) : Nat) : Int) := by
  have := pow_u16 (k - 1) (by omega)
  exact this
theorem pk_u32 (k : Nat) (h : k ≤ 32) : 2 ^ k % 4294967296 = ((if k = 32 then 0 else 2 ^ k : Nat) : Int) := by
  by_cases e : k = 32
  · subst e; rfl
  · rw [if_neg e]
    have := two_pow_lt k 32 (by omega)
    rw [show (2 : Nat) ^ 32 = 4294967296 from rfl] at this
    skip
    have e : ((2 ^ k : Nat) : Int) = 2 ^ k := by simp
    rw [← e]
    generalize 2 ^ k = p at this ⊢
    omega
theorem pk1_u32 (k : Nat) (h : k ≤ 32) : 2 ^ (k - 1) % 4294967296 = ((2 ^ (k - 1) : Nat) : Int) := by
  have := pow_u32 (k - 1) (by omega)
  exact this
theorem pk_u64 (k : Nat) (h : k ≤ 64) : IntKind.u64.wrap (2 ^ k) = ((if k = 64 then 0 else 2 ^ k : Nat) : Int) := by
  by_cases e : k = 64
  · subst e; rfl
  · rw [if_neg e]
    have := two_pow_lt k 64 (by omega)
    rw [show (2 : Nat) ^ 64 = 18446744073709551616 from rfl] at this
    rw [wrapw_u64]
    have e : ((2 ^ k : Nat) : Int) = 2 ^ k := by simp
    rw [← e]
    generalize 2 ^ k = p at this ⊢
    omega
theorem pk1_u64 (k : Nat) (h : k ≤ 64) : IntKind.u64.wrap (2 ^ (k - 1)) = ((2 ^ (k - 1) : Nat) : Int) := by
  have := pow_u64 (k - 1) (by omega)
  exact this
end Go.Lathe
