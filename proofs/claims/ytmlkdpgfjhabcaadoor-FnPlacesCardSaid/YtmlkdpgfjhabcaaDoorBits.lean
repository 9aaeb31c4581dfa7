import Derived.Test.YtmlkdpgfjhabcaaDoorPlain
import Derived.Lib.Tables
import Derived.Lib.TrailingZeros
import Derived.Laws.BitsAllLaws
import Derived.IntWalk
import Derived.WalkKit
import Derived.Lib.Hide
namespace Go.Lathe

def len (x : Nat) : Nat := if x = 0 then 0 else x.log2 + 1
theorem lenIs_len (x : Nat) : lenIs x (len x) := by
  unfold len
  split
  · rename_i h; subst h; exact lenIs_zero
  · rename_i h
    apply lenIs_of_ge
    · exact Nat.lt_log2_self
    · right; exact Nat.log2_self_le h
theorem len_eq (x n : Nat) (h : lenIs x n) : len x = n := lenIs_unique x _ _ (lenIs_len x) h
theorem len_le (n x : Nat) (h : x < 2 ^ n) : len x ≤ n := by
  obtain ⟨k, hk, hl⟩ := lenIs_exists n x h
  rw [len_eq x k hl]; exact hk

def tz (n x : Nat) : Nat := Lib.ctz n x
theorem tz_zero (n : Nat) : tz n 0 = n := by simp [tz, Lib.ctz]
theorem lowAt_tz (n x : Nat) (h0 : x ≠ 0) (h : x < 2 ^ n) : lowAt x (tz n x) := by
  obtain ⟨m, hm, _⟩ := Lib.ctzFrom_spec n x (by omega) h
  have e : tz n x = Lib.ctzFrom n x := by simp [tz, Lib.ctz, h0]
  rw [e]
  have := lowAt_of_form (Lib.ctzFrom n x) m
  rw [← hm] at this
  exact this
theorem tz_eq (n x c : Nat) (h : x < 2 ^ n) (hc : lowAt x c) : tz n x = c := by
  have h0 : x ≠ 0 := by intro e; subst e; have := hc.1; simp at this
  exact lowAt_unique x _ _ (lowAt_tz n x h0 h) hc
theorem tz_le (n x : Nat) (h : x < 2 ^ n) : tz n x ≤ n := by
  by_cases h0 : x = 0
  · subst h0; rw [tz_zero]; exact Nat.le_refl _
  · have := lowAt_lt n x _ h (lowAt_tz n x h0 h); omega

/-! ### the tables -/
theorem tab_len : ∀ n : Fin 256, Lib.len8 (n.val : Int) = (len n.val : Int) := by decide +kernel
theorem tab_pop : ∀ n : Fin 256, Lib.pop8 (n.val : Int) = (pc 8 n.val : Int) := by decide +kernel
theorem tab_ntz : ∀ n : Fin 256, Lib.ntz8 (n.val : Int) = (tz 8 n.val : Int) := by decide +kernel
theorem tab_rev : ∀ n : Fin 256, Lib.rev8 (n.val : Int) = (rev 8 n.val : Int) := by decide +kernel
theorem len8_is (x : Nat) (h : x < 256) : Lib.len8 (x : Int) = (len x : Int) := tab_len ⟨x, h⟩
theorem pop8_is (x : Nat) (h : x < 256) : Lib.pop8 (x : Int) = (pc 8 x : Int) := tab_pop ⟨x, h⟩
theorem ntz8_is (x : Nat) (h : x < 256) : Lib.ntz8 (x : Int) = (tz 8 x : Int) := tab_ntz ⟨x, h⟩
theorem rev8_is (x : Nat) (h : x < 256) : Lib.rev8 (x : Int) = (rev 8 x : Int) := tab_rev ⟨x, h⟩
theorem rev8_lt (x : Nat) : rev 8 x < 256 := rev_lt 8 x

/-! ### Go's operations on unsigned numbers -/
theorem xor_compl (n x : Nat) (h : x < 2 ^ n) : (2 ^ n - 1) ^^^ x = 2 ^ n - 1 - x := by
  apply eq_of_bits n
  · exact Nat.xor_lt_two_pow (by have := Nat.two_pow_pos n; omega) h
  · exact compl_lt _ _
  · intro i hi
    rw [Nat.testBit_xor, testBit_compl n x i h hi, Nat.testBit_two_pow_sub_one]
    simp [hi]
theorem not_u8 (x : Nat) (h : x < 256) : bits .xor .u8 IntKind.u8.max (x : Int) = ((255 - x : Nat) : Int) := by
  have em : IntKind.u8.max = ((255 : Nat) : Int) := by decide +kernel
  rw [em]
  have e := u8_xor_nat 255 x (by decide) h
  have c := xor_compl 8 x h
  rw [show (2 : Nat) ^ 8 - 1 = 255 from rfl] at c
  rw [c] at e
  exact e
theorem not_u16 (x : Nat) (h : x < 65536) : bits .xor .u16 IntKind.u16.max (x : Int) = ((65535 - x : Nat) : Int) := by
  have em : IntKind.u16.max = ((65535 : Nat) : Int) := by decide +kernel
  rw [em]
  have e := u16_xor_nat 65535 x (by decide) h
  have c := xor_compl 16 x h
  rw [show (2 : Nat) ^ 16 - 1 = 65535 from rfl] at c
  rw [c] at e
  exact e
theorem not_u32 (x : Nat) (h : x < 4294967296) : bits .xor .u32 IntKind.u32.max (x : Int) = ((4294967295 - x : Nat) : Int) := by
  have em : IntKind.u32.max = ((4294967295 : Nat) : Int) := by decide +kernel
  rw [em]
  have e := u32_xor_nat 4294967295 x (by decide) h
  have c := xor_compl 32 x h
  rw [show (2 : Nat) ^ 32 - 1 = 4294967295 from rfl] at c
  rw [c] at e
  exact e
theorem not_u64 (x : Nat) (h : x < 18446744073709551616) : bits .xor .u64 IntKind.u64.max (x : Int) = ((18446744073709551615 - x : Nat) : Int) := by
  have em : IntKind.u64.max = ((18446744073709551615 : Nat) : Int) := by decide +kernel
  rw [em]
  have e := u64_xor_nat 18446744073709551615 x (by decide) h
  have c := xor_compl 64 x h
  rw [show (2 : Nat) ^ 64 - 1 = 18446744073709551615 from rfl] at c
  rw [c] at e
  exact e

theorem rot_and (p : Nat) (k : Int) (hp : p ≤ 6) : bits .and .u64 (IntKind.u64.wrap k) ((2 ^ p - 1 : Nat) : Int) = (((k % (2 ^ p : Nat)).toNat : Nat) : Int) := by
  have hw : IntKind.u64.wrap k = k % 18446744073709551616 := IntKind.wrap_u64 k
  have h2 : 2 ^ p ≤ 2 ^ 6 := two_pow_le _ _ hp
  have h0 := Nat.two_pow_pos p
  rw [hw, u64_and _ _ (by omega) (by omega) (by omega) (by omega)]
  have e : (((2 ^ p - 1 : Nat) : Int)).toNat = 2 ^ p - 1 := by omega
  rw [e, Nat.and_two_pow_sub_one_eq_mod]
  have key : ∀ q : Nat, q ≤ 6 → (k % 18446744073709551616).toNat % 2 ^ q = (k % (2 ^ q : Nat)).toNat := by
    intro q hq
    match q, hq with
    | 0, _ => simp; omega
    | 1, _ => simp; omega
    | 2, _ => simp; omega
    | 3, _ => simp; omega
    | 4, _ => simp; omega
    | 5, _ => simp; omega
    | 6, _ => simp; omega
  rw [key p hp]
theorem rot_and8 (k : Int) : bits .and .u64 (IntKind.u64.wrap k) 7 = ((k % 8).toNat : Int) := rot_and 3 k (by decide)
theorem rot_and16 (k : Int) : bits .and .u64 (IntKind.u64.wrap k) 15 = ((k % 16).toNat : Int) := rot_and 4 k (by decide)
theorem rot_and32 (k : Int) : bits .and .u64 (IntKind.u64.wrap k) 31 = ((k % 32).toNat : Int) := rot_and 5 k (by decide)
theorem rot_and64 (k : Int) : bits .and .u64 (IntKind.u64.wrap k) 63 = ((k % 64).toNat : Int) := rot_and 6 k (by decide)
theorem cast_shl (x s M : Nat) : ((x : Int) * 2 ^ s % (M : Int)) = ((x * 2 ^ s % M : Nat) : Int) := by simp
theorem cast_shr (x s : Nat) : ((x : Int) / 2 ^ s) = ((x / 2 ^ s : Nat) : Int) := by simp
theorem ret_int {k : IntKind} {a b : Int} (h : a = b) : Ending.returned (.int k a) = .returned (.int k b) := by rw [h]
theorem ret_bool {a b : Bool} (h : a = b) : Ending.returned (.bool a) = .returned (.bool b) := by rw [h]
theorem wrapw_u8 (n : Int) : IntKind.u8.wrap n = n % 256 := IntKind.wrap_u8' n
theorem wrapw_u16 (n : Int) : IntKind.u16.wrap n = n % 65536 := IntKind.wrap_u16 n
theorem wrapw_u32 (n : Int) : IntKind.u32.wrap n = n % 4294967296 := IntKind.wrap_u32' n
theorem wrapw_u64 (n : Int) : IntKind.u64.wrap n = n % 18446744073709551616 := IntKind.wrap_u64 n
theorem rotm_u8 (x s : Nat) (hx : x < 256) (hs : s < 8) : bits .or .u8 ((x : Int) * 2 ^ s % 256) ((x : Int) / 2 ^ (8 - s)) = ((rotl 8 x s : Nat) : Int) := by
  have e1 : ((x : Int) * 2 ^ s % 256) = ((x * 2 ^ s % 256 : Nat) : Int) := by simp
  have e2 : ((x : Int) / 2 ^ (8 - s)) = ((x / 2 ^ (8 - s) : Nat) : Int) := by simp
  have l1 : x * 2 ^ s % 256 < 256 := Nat.mod_lt _ (by decide)
  have l2 : x / 2 ^ (8 - s) < 256 := Nat.lt_of_le_of_lt (Nat.div_le_self _ _) hx
  rw [e1, e2, u8_or_nat _ _ l1 l2]
  have := rotl_shifts 8 x s hx hs
  rw [show (2 : Nat) ^ 8 = 256 from rfl] at this
  rw [this]
theorem rotw_u8 (x s : Nat) (hx : x < 256) (hs : s < 8) : bits .or .u8 (IntKind.u8.wrap ((x : Int) * 2 ^ s)) ((x : Int) / 2 ^ (8 - s)) = ((rotl 8 x s : Nat) : Int) := by
  rw [wrapw_u8]; exact rotm_u8 x s hx hs
theorem rotm_u16 (x s : Nat) (hx : x < 65536) (hs : s < 16) : bits .or .u16 ((x : Int) * 2 ^ s % 65536) ((x : Int) / 2 ^ (16 - s)) = ((rotl 16 x s : Nat) : Int) := by
  have e1 : ((x : Int) * 2 ^ s % 65536) = ((x * 2 ^ s % 65536 : Nat) : Int) := by simp
  have e2 : ((x : Int) / 2 ^ (16 - s)) = ((x / 2 ^ (16 - s) : Nat) : Int) := by simp
  have l1 : x * 2 ^ s % 65536 < 65536 := Nat.mod_lt _ (by decide)
  have l2 : x / 2 ^ (16 - s) < 65536 := Nat.lt_of_le_of_lt (Nat.div_le_self _ _) hx
  rw [e1, e2, u16_or_nat _ _ l1 l2]
  have := rotl_shifts 16 x s hx hs
  rw [show (2 : Nat) ^ 16 = 65536 from rfl] at this
  rw [this]
theorem rotw_u16 (x s : Nat) (hx : x < 65536) (hs : s < 16) : bits .or .u16 (IntKind.u16.wrap ((x : Int) * 2 ^ s)) ((x : Int) / 2 ^ (16 - s)) = ((rotl 16 x s : Nat) : Int) := by
  rw [wrapw_u16]; exact rotm_u16 x s hx hs
theorem rotm_u32 (x s : Nat) (hx : x < 4294967296) (hs : s < 32) : bits .or .u32 ((x : Int) * 2 ^ s % 4294967296) ((x : Int) / 2 ^ (32 - s)) = ((rotl 32 x s : Nat) : Int) := by
  have e1 : ((x : Int) * 2 ^ s % 4294967296) = ((x * 2 ^ s % 4294967296 : Nat) : Int) := by simp
  have e2 : ((x : Int) / 2 ^ (32 - s)) = ((x / 2 ^ (32 - s) : Nat) : Int) := by simp
  have l1 : x * 2 ^ s % 4294967296 < 4294967296 := Nat.mod_lt _ (by decide)
  have l2 : x / 2 ^ (32 - s) < 4294967296 := Nat.lt_of_le_of_lt (Nat.div_le_self _ _) hx
  rw [e1, e2, u32_or_nat _ _ l1 l2]
  have := rotl_shifts 32 x s hx hs
  rw [show (2 : Nat) ^ 32 = 4294967296 from rfl] at this
  rw [this]
theorem rotw_u32 (x s : Nat) (hx : x < 4294967296) (hs : s < 32) : bits .or .u32 (IntKind.u32.wrap ((x : Int) * 2 ^ s)) ((x : Int) / 2 ^ (32 - s)) = ((rotl 32 x s : Nat) : Int) := by
  rw [wrapw_u32]; exact rotm_u32 x s hx hs
theorem rotm_u64 (x s : Nat) (hx : x < 18446744073709551616) (hs : s < 64) : bits .or .u64 ((x : Int) * 2 ^ s % 18446744073709551616) ((x : Int) / 2 ^ (64 - s)) = ((rotl 64 x s : Nat) : Int) := by
  have e1 : ((x : Int) * 2 ^ s % 18446744073709551616) = ((x * 2 ^ s % 18446744073709551616 : Nat) : Int) := by simp
  have e2 : ((x : Int) / 2 ^ (64 - s)) = ((x / 2 ^ (64 - s) : Nat) : Int) := by simp
  have l1 : x * 2 ^ s % 18446744073709551616 < 18446744073709551616 := Nat.mod_lt _ (by decide)
  have l2 : x / 2 ^ (64 - s) < 18446744073709551616 := Nat.lt_of_le_of_lt (Nat.div_le_self _ _) hx
  rw [e1, e2, u64_or_nat _ _ l1 l2]
  have := rotl_shifts 64 x s hx hs
  rw [show (2 : Nat) ^ 64 = 18446744073709551616 from rfl] at this
  rw [this]
theorem rotw_u64 (x s : Nat) (hx : x < 18446744073709551616) (hs : s < 64) : bits .or .u64 (IntKind.u64.wrap ((x : Int) * 2 ^ s)) ((x : Int) / 2 ^ (64 - s)) = ((rotl 64 x s : Nat) : Int) := by
  rw [wrapw_u64]; exact rotm_u64 x s hx hs
/-- a call through a function value in a slot -/
theorem wpList_slot {P : Program} {ops : Array Oper} {Q : Exit → Act → World → Prop} {a : Act} {w : World} {rest : List Oper} {o : Oper}
    (hw : Region.wanted o (yielded ops a.tmps) = true) (t : Tmp) (f : FuncId) (xs : Array Operand) (ats : Array TypeId)
    (ho : o.op = .call { callee := .value (.tmp t), args := xs, argTypes := ats }) (hv : a.eval (.tmp t) = .func (.func f) #[] #[])
    (hf : ∀ args w, (callFunc f args).run P w = .ok (.enter f args) w)
    (h : ∀ K : Act → World → Prop, (∀ a w, wpList P ops Q rest a w → K a w) → Calls P f (#[] ++ xs.map a.eval ++ #[]) w fun
      | .returned v, w'' => K (a.put o.dst v) w''
      | .panicked chain, w'' => Q (.panic chain) a w''
      | .outgrown, _ => LetsOut Q) : wpList P ops Q (o :: rest) a w :=
  BigFrame.wpList_want hw fun K hK => by
    have e : execOp a.eval o = (do let d ← Deferred.ofValue (.func (.func f) #[] #[]) (xs.map a.eval); invoke d.target d.args) := by
      unfold execOp
      rw [ho]
      simp only [resolve]
      rw [hv]
    unfold Oper.wp
    rw [e]
    have e2 : (do let d ← Deferred.ofValue (.func (.func f) #[] #[]) (xs.map a.eval); invoke d.target d.args) = callFunc f (#[] ++ xs.map a.eval ++ #[]) := rfl
    rw [e2, hf]
    exact h K hK

theorem swpw_u8 (x M d p : Nat) (hx : x < 256) (hM : M < 256) (hp : p = 2 ^ d) :
    bits .or .u8 (bits .and .u8 ((x : Int) / (p : Int)) (M : Int)) (IntKind.u8.wrap (bits .and .u8 (x : Int) (M : Int) * (p : Int))) = ((swp 8 d M x : Nat) : Int) := by
  have e1 : ((x : Int) / (p : Int)) = ((x / p : Nat) : Int) := by simp
  have l1 : x / p < 256 := Nat.lt_of_le_of_lt (Nat.div_le_self _ _) hx
  rw [e1, u8_and_nat (x / p) M l1 hM, u8_and_nat x M hx hM, wrapw_u8]
  have e2 : (((x &&& M : Nat) : Int) * (p : Int)) % 256 = (((x &&& M) * p % 256 : Nat) : Int) := by simp
  rw [e2, u8_or_nat _ _ (Nat.lt_of_le_of_lt Nat.and_le_left l1) (Nat.mod_lt _ (by decide))]
  subst hp
  rfl
theorem swpm_u8 (x M d p : Nat) (hx : x < 256) (hM : M < 256) (hp : p = 2 ^ d) :
    bits .or .u8 (bits .and .u8 ((x : Int) / (p : Int)) (M : Int)) (bits .and .u8 (x : Int) (M : Int) * (p : Int) % 256) = ((swp 8 d M x : Nat) : Int) := by
  have := swpw_u8 x M d p hx hM hp
  rw [wrapw_u8] at this
  exact this
theorem halfw_u8 (x p h : Nat) (hx : x < 256) (hp : p = 2 ^ h) :
    bits .or .u8 ((x : Int) / (p : Int)) (IntKind.u8.wrap ((x : Int) * (p : Int))) = (((x / 2 ^ h) ||| (x * 2 ^ h % 2 ^ 8) : Nat) : Int) := by
  have e1 : ((x : Int) / (p : Int)) = ((x / p : Nat) : Int) := by simp
  have l1 : x / p < 256 := Nat.lt_of_le_of_lt (Nat.div_le_self _ _) hx
  have e2 : ((x : Int) * (p : Int)) % 256 = ((x * p % 256 : Nat) : Int) := by simp
  rw [e1, wrapw_u8, e2, u8_or_nat _ _ l1 (Nat.mod_lt _ (by decide))]
  subst hp
  rfl
theorem halfm_u8 (x p h : Nat) (hx : x < 256) (hp : p = 2 ^ h) :
    bits .or .u8 ((x : Int) / (p : Int)) ((x : Int) * (p : Int) % 256) = (((x / 2 ^ h) ||| (x * 2 ^ h % 2 ^ 8) : Nat) : Int) := by
  have := halfw_u8 x p h hx hp
  rw [wrapw_u8] at this
  exact this
theorem and255_u8 (x : Nat) (h : x < 256) : bits .and .u8 (x : Int) 255 = ((x % 256 : Nat) : Int) := by
  have e := u8_and_nat x 255 h (by decide)
  rw [show x &&& 255 = x % 256 from Nat.and_two_pow_sub_one_eq_mod x 8] at e
  exact e
theorem swpw_u16 (x M d p : Nat) (hx : x < 65536) (hM : M < 65536) (hp : p = 2 ^ d) :
    bits .or .u16 (bits .and .u16 ((x : Int) / (p : Int)) (M : Int)) (IntKind.u16.wrap (bits .and .u16 (x : Int) (M : Int) * (p : Int))) = ((swp 16 d M x : Nat) : Int) := by
  have e1 : ((x : Int) / (p : Int)) = ((x / p : Nat) : Int) := by simp
  have l1 : x / p < 65536 := Nat.lt_of_le_of_lt (Nat.div_le_self _ _) hx
  rw [e1, u16_and_nat (x / p) M l1 hM, u16_and_nat x M hx hM, wrapw_u16]
  have e2 : (((x &&& M : Nat) : Int) * (p : Int)) % 65536 = (((x &&& M) * p % 65536 : Nat) : Int) := by simp
  rw [e2, u16_or_nat _ _ (Nat.lt_of_le_of_lt Nat.and_le_left l1) (Nat.mod_lt _ (by decide))]
  subst hp
  rfl
theorem swpm_u16 (x M d p : Nat) (hx : x < 65536) (hM : M < 65536) (hp : p = 2 ^ d) :
    bits .or .u16 (bits .and .u16 ((x : Int) / (p : Int)) (M : Int)) (bits .and .u16 (x : Int) (M : Int) * (p : Int) % 65536) = ((swp 16 d M x : Nat) : Int) := by
  have := swpw_u16 x M d p hx hM hp
  rw [wrapw_u16] at this
  exact this
theorem halfw_u16 (x p h : Nat) (hx : x < 65536) (hp : p = 2 ^ h) :
    bits .or .u16 ((x : Int) / (p : Int)) (IntKind.u16.wrap ((x : Int) * (p : Int))) = (((x / 2 ^ h) ||| (x * 2 ^ h % 2 ^ 16) : Nat) : Int) := by
  have e1 : ((x : Int) / (p : Int)) = ((x / p : Nat) : Int) := by simp
  have l1 : x / p < 65536 := Nat.lt_of_le_of_lt (Nat.div_le_self _ _) hx
  have e2 : ((x : Int) * (p : Int)) % 65536 = ((x * p % 65536 : Nat) : Int) := by simp
  rw [e1, wrapw_u16, e2, u16_or_nat _ _ l1 (Nat.mod_lt _ (by decide))]
  subst hp
  rfl
theorem halfm_u16 (x p h : Nat) (hx : x < 65536) (hp : p = 2 ^ h) :
    bits .or .u16 ((x : Int) / (p : Int)) ((x : Int) * (p : Int) % 65536) = (((x / 2 ^ h) ||| (x * 2 ^ h % 2 ^ 16) : Nat) : Int) := by
  have := halfw_u16 x p h hx hp
  rw [wrapw_u16] at this
  exact this
theorem and255_u16 (x : Nat) (h : x < 65536) : bits .and .u16 (x : Int) 255 = ((x % 256 : Nat) : Int) := by
  have e := u16_and_nat x 255 h (by decide)
  rw [show x &&& 255 = x % 256 from Nat.and_two_pow_sub_one_eq_mod x 8] at e
  exact e
theorem swpw_u32 (x M d p : Nat) (hx : x < 4294967296) (hM : M < 4294967296) (hp : p = 2 ^ d) :
    bits .or .u32 (bits .and .u32 ((x : Int) / (p : Int)) (M : Int)) (IntKind.u32.wrap (bits .and .u32 (x : Int) (M : Int) * (p : Int))) = ((swp 32 d M x : Nat) : Int) := by
  have e1 : ((x : Int) / (p : Int)) = ((x / p : Nat) : Int) := by simp
  have l1 : x / p < 4294967296 := Nat.lt_of_le_of_lt (Nat.div_le_self _ _) hx
  rw [e1, u32_and_nat (x / p) M l1 hM, u32_and_nat x M hx hM, wrapw_u32]
  have e2 : (((x &&& M : Nat) : Int) * (p : Int)) % 4294967296 = (((x &&& M) * p % 4294967296 : Nat) : Int) := by simp
  rw [e2, u32_or_nat _ _ (Nat.lt_of_le_of_lt Nat.and_le_left l1) (Nat.mod_lt _ (by decide))]
  subst hp
  rfl
theorem swpm_u32 (x M d p : Nat) (hx : x < 4294967296) (hM : M < 4294967296) (hp : p = 2 ^ d) :
    bits .or .u32 (bits .and .u32 ((x : Int) / (p : Int)) (M : Int)) (bits .and .u32 (x : Int) (M : Int) * (p : Int) % 4294967296) = ((swp 32 d M x : Nat) : Int) := by
  have := swpw_u32 x M d p hx hM hp
  rw [wrapw_u32] at this
  exact this
theorem halfw_u32 (x p h : Nat) (hx : x < 4294967296) (hp : p = 2 ^ h) :
    bits .or .u32 ((x : Int) / (p : Int)) (IntKind.u32.wrap ((x : Int) * (p : Int))) = (((x / 2 ^ h) ||| (x * 2 ^ h % 2 ^ 32) : Nat) : Int) := by
  have e1 : ((x : Int) / (p : Int)) = ((x / p : Nat) : Int) := by simp
  have l1 : x / p < 4294967296 := Nat.lt_of_le_of_lt (Nat.div_le_self _ _) hx
  have e2 : ((x : Int) * (p : Int)) % 4294967296 = ((x * p % 4294967296 : Nat) : Int) := by simp
  rw [e1, wrapw_u32, e2, u32_or_nat _ _ l1 (Nat.mod_lt _ (by decide))]
  subst hp
  rfl
theorem halfm_u32 (x p h : Nat) (hx : x < 4294967296) (hp : p = 2 ^ h) :
    bits .or .u32 ((x : Int) / (p : Int)) ((x : Int) * (p : Int) % 4294967296) = (((x / 2 ^ h) ||| (x * 2 ^ h % 2 ^ 32) : Nat) : Int) := by
  have := halfw_u32 x p h hx hp
  rw [wrapw_u32] at this
  exact this
theorem and255_u32 (x : Nat) (h : x < 4294967296) : bits .and .u32 (x : Int) 255 = ((x % 256 : Nat) : Int) := by
  have e := u32_and_nat x 255 h (by decide)
  rw [show x &&& 255 = x % 256 from Nat.and_two_pow_sub_one_eq_mod x 8] at e
  exact e
theorem swpw_u64 (x M d p : Nat) (hx : x < 18446744073709551616) (hM : M < 18446744073709551616) (hp : p = 2 ^ d) :
    bits .or .u64 (bits .and .u64 ((x : Int) / (p : Int)) (M : Int)) (IntKind.u64.wrap (bits .and .u64 (x : Int) (M : Int) * (p : Int))) = ((swp 64 d M x : Nat) : Int) := by
  have e1 : ((x : Int) / (p : Int)) = ((x / p : Nat) : Int) := by simp
  have l1 : x / p < 18446744073709551616 := Nat.lt_of_le_of_lt (Nat.div_le_self _ _) hx
  rw [e1, u64_and_nat (x / p) M l1 hM, u64_and_nat x M hx hM, wrapw_u64]
  have e2 : (((x &&& M : Nat) : Int) * (p : Int)) % 18446744073709551616 = (((x &&& M) * p % 18446744073709551616 : Nat) : Int) := by simp
  rw [e2, u64_or_nat _ _ (Nat.lt_of_le_of_lt Nat.and_le_left l1) (Nat.mod_lt _ (by decide))]
  subst hp
  rfl
theorem swpm_u64 (x M d p : Nat) (hx : x < 18446744073709551616) (hM : M < 18446744073709551616) (hp : p = 2 ^ d) :
    bits .or .u64 (bits .and .u64 ((x : Int) / (p : Int)) (M : Int)) (bits .and .u64 (x : Int) (M : Int) * (p : Int) % 18446744073709551616) = ((swp 64 d M x : Nat) : Int) := by
  have := swpw_u64 x M d p hx hM hp
  rw [wrapw_u64] at this
  exact this
theorem halfw_u64 (x p h : Nat) (hx : x < 18446744073709551616) (hp : p = 2 ^ h) :
    bits .or .u64 ((x : Int) / (p : Int)) (IntKind.u64.wrap ((x : Int) * (p : Int))) = (((x / 2 ^ h) ||| (x * 2 ^ h % 2 ^ 64) : Nat) : Int) := by
  have e1 : ((x : Int) / (p : Int)) = ((x / p : Nat) : Int) := by simp
  have l1 : x / p < 18446744073709551616 := Nat.lt_of_le_of_lt (Nat.div_le_self _ _) hx
  have e2 : ((x : Int) * (p : Int)) % 18446744073709551616 = ((x * p % 18446744073709551616 : Nat) : Int) := by simp
  rw [e1, wrapw_u64, e2, u64_or_nat _ _ l1 (Nat.mod_lt _ (by decide))]
  subst hp
  rfl
theorem halfm_u64 (x p h : Nat) (hx : x < 18446744073709551616) (hp : p = 2 ^ h) :
    bits .or .u64 ((x : Int) / (p : Int)) ((x : Int) * (p : Int) % 18446744073709551616) = (((x / 2 ^ h) ||| (x * 2 ^ h % 2 ^ 64) : Nat) : Int) := by
  have := halfw_u64 x p h hx hp
  rw [wrapw_u64] at this
  exact this
theorem and255_u64 (x : Nat) (h : x < 18446744073709551616) : bits .and .u64 (x : Int) 255 = ((x % 256 : Nat) : Int) := by
  have e := u64_and_nat x 255 h (by decide)
  rw [show x &&& 255 = x % 256 from Nat.and_two_pow_sub_one_eq_mod x 8] at e
  exact e
theorem len_shift (s x : Nat) (h : 2 ^ s ≤ x) : len x = s + len (x / 2 ^ s) := by
  apply len_eq
  obtain ⟨h1, h2⟩ := lenIs_len (x / 2 ^ s)
  have hp := Nat.two_pow_pos s
  have hne : x / 2 ^ s ≠ 0 := by
    have := Nat.div_pos h hp
    omega
  refine ⟨?_, ?_⟩
  · rw [Nat.pow_add, Nat.mul_comm]
    exact (Nat.div_lt_iff_lt_mul hp).1 h1
  · right
    rcases h2 with h2 | h2
    · exact absurd ((lenIs_zero_iff _ _ (lenIs_len (x / 2 ^ s))).1 h2) hne
    · rw [Nat.testBit_div_two_pow] at h2
      have hl : len (x / 2 ^ s) ≠ 0 := fun e => hne ((lenIs_zero_iff _ _ (lenIs_len (x / 2 ^ s))).1 e)
      rw [show s + len (x / 2 ^ s) - 1 = len (x / 2 ^ s) - 1 + s by omega]
      exact h2
theorem and127_i64 (x : Nat) (h : x < 9223372036854775808) : bits .and .i64 (x : Int) 127 = ((x % 128 : Nat) : Int) := by
  have h1 : (BitVec.ofInt 64 (x : Int)).toNat = x := by
    rw [BitVec.ofInt_natCast, BitVec.toNat_ofNat]; exact Nat.mod_eq_of_lt (by omega)
  have e : bits .and .i64 (x : Int) 127 = IntKind.i64.wrap (((BitVec.ofInt 64 (x : Int) &&& BitVec.ofInt 64 127).toNat : Nat) : Int) := rfl
  rw [e, BitVec.toNat_and, h1, show (BitVec.ofInt 64 127).toNat = 127 from rfl, show x &&& 127 = x % 128 from Nat.and_two_pow_sub_one_eq_mod x 7]
  exact IntWalk.i64_in _ (by omega)

theorem and127_wrap (x : Nat) (h : x < 18446744073709551616) : bits .and .i64 (IntKind.i64.wrap (x : Int)) 127 = ((x % 128 : Nat) : Int) := by
  by_cases h1 : x < 9223372036854775808
  · rw [IntWalk.i64_in _ (by omega)]; exact and127_i64 x h1
  · have e : IntKind.i64.wrap (x : Int) = (x : Int) - 18446744073709551616 := by rw [IntKind.wrap_i64]; omega
    have h2 : (BitVec.ofInt 64 ((x : Int) - 18446744073709551616)).toNat = x := by
      rw [BitVec.toNat_ofInt]; omega
    have f : bits .and .i64 ((x : Int) - 18446744073709551616) 127 = IntKind.i64.wrap (((BitVec.ofInt 64 ((x : Int) - 18446744073709551616) &&& BitVec.ofInt 64 127).toNat : Nat) : Int) := rfl
    rw [e, f, BitVec.toNat_and, h2, show (BitVec.ofInt 64 127).toNat = 127 from rfl, show x &&& 127 = x % 128 from Nat.and_two_pow_sub_one_eq_mod x 7]
    exact IntWalk.i64_in _ (by omega)

end Go.Lathe
