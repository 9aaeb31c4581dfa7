import Derived.Test.YtoiclahghchmaaaPlain
import Derived.Lib.Tables
import Derived.Lib.TrailingZeros
import Derived.Laws.BitsAllLaws
import Derived.IntWalk
import Derived.WalkKit
import Derived.Lib.Hide
namespace Go.Lathe

def len (x : Nat) : Nat := if x = 0 then 0 else x.log2 + 1
theorem lenIs_len (x : Nat) : lenIs x (len x) := by
  unfold len
  split
  · rename_i h; subst h; exact lenIs_zero
  · rename_i h
    apply lenIs_of_ge
    · exact Nat.lt_log2_self
    · right; exact Nat.log2_self_le h
theorem len_eq (x n : Nat) (h : lenIs x n) : len x = n := lenIs_unique x _ _ (lenIs_len x) h
theorem len_le (n x : Nat) (h : x < 2 ^ n) : len x ≤ n := by
  obtain ⟨k, hk, hl⟩ := lenIs_exists n x h
  rw [len_eq x k hl]; exact hk

def tz (n x : Nat) : Nat := Lib.ctz n x
theorem tz_zero (n : Nat) : tz n 0 = n := by simp [tz, Lib.ctz]
theorem lowAt_tz (n x : Nat) (h0 : x ≠ 0) (h : x < 2 ^ n) : lowAt x (tz n x) := by
  obtain ⟨m, hm, _⟩ := Lib.ctzFrom_spec n x (by omega) h
  have e : tz n x = Lib.ctzFrom n x := by simp [tz, Lib.ctz, h0]
  rw [e]
  have := lowAt_of_form (Lib.ctzFrom n x) m
  rw [← hm] at this
  exact this
theorem tz_eq (n x c : Nat) (h : x < 2 ^ n) (hc : lowAt x c) : tz n x = c := by
  have h0 : x ≠ 0 := by intro e; subst e; have := hc.1; simp at this
  exact lowAt_unique x _ _ (lowAt_tz n x h0 h) hc
theorem tz_le (n x : Nat) (h : x < 2 ^ n) : tz n x ≤ n := by
  by_cases h0 : x = 0
  · subst h0; rw [tz_zero]; exact Nat.le_refl _
  · have := lowAt_lt n x _ h (lowAt_tz n x h0 h); omega

/-! ### the tables -/
theorem tab_len : ∀ n : Fin 256, Lib.len8 (n.val : Int) = (len n.val : Int) := by decide +kernel
theorem tab_pop : ∀ n : Fin 256, Lib.pop8 (n.val : Int) = (pc 8 n.val : Int) := by decide +kernel
theorem tab_ntz : ∀ n : Fin 256, Lib.ntz8 (n.val : Int) = (tz 8 n.val : Int) := by decide +kernel
theorem tab_rev : ∀ n : Fin 256, Lib.rev8 (n.val : Int) = (rev 8 n.val : Int) := by decide +kernel
theorem len8_is (x : Nat) (h : x < 256) : Lib.len8 (x : Int) = (len x : Int) := tab_len ⟨x, h⟩
theorem pop8_is (x : Nat) (h : x < 256) : Lib.pop8 (x : Int) = (pc 8 x : Int) := tab_pop ⟨x, h⟩
theorem ntz8_is (x : Nat) (h : x < 256) : Lib.ntz8 (x : Int) = (tz 8 x : Int) := tab_ntz ⟨x, h⟩
theorem rev8_is (x : Nat) (h : x < 256) : Lib.rev8 (x : Int) = (rev 8 x : Int) := tab_rev ⟨x, h⟩
theorem rev8_lt (x : Nat) : rev 8 x < 256 := rev_lt 8 x

/-! ### Go's operations on unsigned numbers -/
theorem xor_compl (n x : Nat) (h : x < 2 ^ n) : (2 ^ n - 1) ^^^ x = 2 ^ n - 1 - x := by
  apply eq_of_bits n
  · exact Nat.xor_lt_two_pow (by have := Nat.two_pow_pos n; omega) h
  · exact compl_lt _ _
  · intro i hi
    rw [Nat.testBit_xor, testBit_compl n x i h hi, Nat.testBit_two_pow_sub_one]
    simp [hi]
theorem not_u8 (x : Nat) (h : x < 256) : bits .xor .u8 IntKind.u8.max (x : Int) = ((255 - x : Nat) : Int) := by
  have em : IntKind.u8.max = ((255 : Nat) : Int) := by decide +kernel
  rw [em]
  have e := u8_xor_nat 255 x (by decide) h
  have c := xor_compl 8 x h
  rw [show (2 : Nat) ^ 8 - 1 = 255 from rfl] at c
  rw [c] at e
  exact e
theorem not_u16 (x : Nat) (h : x < 65536) : bits .xor .u16 IntKind.u16.max (x : Int) = ((65535 - x : Nat) : Int) := by
  have em : IntKind.u16.max = ((65535 : Nat) : Int) := by decide +kernel
  rw [em]
  have e := u16_xor_nat 65535 x (by decide) h
  have c := xor_compl 16 x h
  rw [show (2 : Nat) ^ 16 - 1 = 65535 from rfl] at c
  rw [c] at e
  exact e
theorem not_u32 (x : Nat) (h : x < 4294967296) : bits .xor .u32 IntKind.u32.max (x : Int) = ((4294967295 - x : Nat) : Int) := by
  have em : IntKind.u32.max = ((4294967295 : Nat) : Int) := by decide +kernel
  rw [em]
  have e := u32_xor_nat 4294967295 x (by decide) h
  have c := xor_compl 32 x h
  rw [show (2 : Nat) ^ 32 - 1 = 4294967295 from rfl] at c
  rw [c] at e
  exact e
theorem not_u64 (x : Nat) (h : x < 18446744073709551616) : bits .xor .u64 IntKind.u64.max (x : Int) = ((18446744073709551615 - x : Nat) : Int) := by
  have em : IntKind.u64.max = ((18446744073709551615 : Nat) : Int) := by decide +kernel
  rw [em]
  have e := u64_xor_nat 18446744073709551615 x (by decide) h
  have c := xor_compl 64 x h
  rw [show (2 : Nat) ^ 64 - 1 = 18446744073709551615 from rfl] at c
  rw [c] at e
  exact e

theorem rot_and (p : Nat) (k : Int) (hp : p ≤ 6) : bits .and .u64 (IntKind.u64.wrap k) ((2 ^ p - 1 : Nat) : Int) = (((k % (2 ^ p : Nat)).toNat : Nat) : Int) := by
  have hw : IntKind.u64.wrap k = k % 18446744073709551616 := IntKind.wrap_u64 k
  have h2 : 2 ^ p ≤ 2 ^ 6 := two_pow_le _ _ hp
  have h0 := Nat.two_pow_pos p
  rw [hw, u64_and _ _ (by omega) (by omega) (by omega) (by omega)]
  have e : (((2 ^ p - 1 : Nat) : Int)).toNat = 2 ^ p - 1 := by omega
  rw [e, Nat.and_two_pow_sub_one_eq_mod]
  have key : ∀ q : Nat, q ≤ 6 → (k % 18446744073709551616).toNat % 2 ^ q = (k % (2 ^ q : Nat)).toNat := by
    intro q hq
    match q, hq with
    | 0, _ => simp; omega
    | 1, _ => simp; omega
    | 2, _ => simp; omega
    | 3, _ => simp; omega
    | 4, _ => simp; omega
    | 5, _ => simp; omega
    | 6, _ => simp; omega
  rw [key p hp]
theorem rot_and8 (k : Int) : bits .and .u64 (IntKind.u64.wrap k) 7 = ((k % 8).toNat : Int) := rot_and 3 k (by decide)
theorem rot_and16 (k : Int) : bits .and .u64 (IntKind.u64.wrap k) 15 = ((k % 16).toNat : Int) := rot_and 4 k (by decide)
theorem rot_and32 (k : Int) : bits .and .u64 (IntKind.u64.wrap k) 31 = ((k % 32).toNat : Int) := rot_and 5 k (by decide)
theorem rot_and64 (k : Int) : bits .and .u64 (IntKind.u64.wrap k) 63 = ((k % 64).toNat : Int) := rot_and 6 k (by decide)
theorem cast_shl (x s M : Nat) : ((x : Int) * 2 ^ s % (M : Int)) = ((x * 2 ^ s % M : Nat) : Int) := by simp
theorem cast_shr (x s : Nat) : ((x : Int) / 2 ^ s) = ((x / 2 ^ s : Nat) : Int) := by simp
theorem ret_int {k : IntKind} {a b : Int} (h : a = b) : Ending.returned (.int k a) = .returned (.int k b) := by rw [h]
theorem ret_bool {a b : Bool} (h : a = b) : Ending.returned (.bool a) = .returned (.bool b) := by rw [h]
theorem wrapw_u8 (n : Int) : IntKind.u8.wrap n = n % 256 := IntKind.wrap_u8' n
theorem wrapw_u16 (n : Int) : IntKind.u16.wrap n = n % 65536 := IntKind.wrap_u16 n
theorem wrapw_u32 (n : Int) : IntKind.u32.wrap n = n % 4294967296 := IntKind.wrap_u32' n
theorem wrapw_u64 (n : Int) : IntKind.u64.wrap n = n % 18446744073709551616 := IntKind.wrap_u64 n
theorem rotm_u8 (x s : Nat) (hx : x < 256) (hs : s < 8) : bits .or .u8 ((x : Int) * 2 ^ s % 256) ((x : Int) / 2 ^ (8 - s)) = ((rotl 8 x s : Nat) : Int) := by
  have e1 : ((x : Int) * 2 ^ s % 256) = ((x * 2 ^ s % 256 : Nat) : Int) := by simp
  have e2 : ((x : Int) / 2 ^ (8 - s)) = ((x / 2 ^ (8 - s) : Nat) : Int) := by simp
  have l1 : x * 2 ^ s % 256 < 256 := Nat.mod_lt _ (by decide)
  have l2 : x / 2 ^ (8 - s) < 256 := Nat.lt_of_le_of_lt (Nat.div_le_self _ _) hx
  rw [e1, e2, u8_or_nat _ _ l1 l2]
  have := rotl_shifts 8 x s hx hs
  rw [show (2 : Nat) ^ 8 = 256 from rfl] at this
  rw [this]
theorem rotw_u8 (x s : Nat) (hx : x < 256) (hs : s < 8) : bits .or .u8 (IntKind.u8.wrap ((x : Int) * 2 ^ s)) ((x : Int) / 2 ^ (8 - s)) = ((rotl 8 x s : Nat) : Int) := by
  rw [wrapw_u8]; exact rotm_u8 x s hx hs
theorem rotm_u16 (x s : Nat) (hx : x < 65536) (hs : s < 16) : bits .or .u16 ((x : Int) * 2 ^ s % 65536) ((x : Int) / 2 ^ (16 - s)) = ((rotl 16 x s : Nat) : Int) := by
  have e1 : ((x : Int) * 2 ^ s % 65536) = ((x * 2 ^ s % 65536 : Nat) : Int) := by simp
  have e2 : ((x : Int) / 2 ^ (16 - s)) = ((x / 2 ^ (16 - s) : Nat) : Int) := by simp
  have l1 : x * 2 ^ s % 65536 < 65536 := Nat.mod_lt _ (by decide)
  have l2 : x / 2 ^ (16 - s) < 65536 := Nat.lt_of_le_of_lt (Nat.div_le_self _ _) hx
  rw [e1, e2, u16_or_nat _ _ l1 l2]
  have := rotl_shifts 16 x s hx hs
  rw [show (2 : Nat) ^ 16 = 65536 from rfl] at this
  rw [this]
theorem rotw_u16 (x s : Nat) (hx : x < 65536) (hs : s < 16) : bits .or .u16 (IntKind.u16.wrap ((x : Int) * 2 ^ s)) ((x : Int) / 2 ^ (16 - s)) = ((rotl 16 x s : Nat) : Int) := by
  rw [wrapw_u16]; exact rotm_u16 x s hx hs
theorem rotm_u32 (x s : Nat) (hx : x < 4294967296) (hs : s < 32) : bits .or .u32 ((x : Int) * 2 ^ s % 4294967296) ((x : Int) / 2 ^ (32 - s)) = ((rotl 32 x s : Nat) : Int) := by
  have e1 : ((x : Int) * 2 ^ s % 4294967296) = ((x * 2 ^ s % 4294967296 : Nat) : Int) := by simp
  have e2 : ((x : Int) / 2 ^ (32 - s)) = ((x / 2 ^ (32 - s) : Nat) : Int) := by simp
  have l1 : x * 2 ^ s % 4294967296 < 4294967296 := Nat.mod_lt _ (by decide)
  have l2 : x / 2 ^ (32 - s) < 4294967296 := Nat.lt_of_le_of_lt (Nat.div_le_self _ _) hx
  rw [e1, e2, u32_or_nat _ _ l1 l2]
  have := rotl_shifts 32 x s hx hs
  rw [show (2 : Nat) ^ 32 = 4294967296 from rfl] at this
  rw [this]
theorem rotw_u32 (x s : Nat) (hx : x < 4294967296) (hs : s < 32) : bits .or .u32 (IntKind.u32.wrap ((x : Int) * 2 ^ s)) ((x : Int) / 2 ^ (32 - s)) = ((rotl 32 x s : Nat) : Int) := by
  rw [wrapw_u32]; exact rotm_u32 x s hx hs
theorem rotm_u64 (x s : Nat) (hx : x < 18446744073709551616) (hs : s < 64) : bits .or .u64 ((x : Int) * 2 ^ s % 18446744073709551616) ((x : Int) / 2 ^ (64 - s)) = ((rotl 64 x s : Nat) : Int) := by
  have e1 : ((x : Int) * 2 ^ s % 18446744073709551616) = ((x * 2 ^ s % 18446744073709551616 : Nat) : Int) := by simp
  have e2 : ((x : Int) / 2 ^ (64 - s)) = ((x / 2 ^ (64 - s) : Nat) : Int) := by simp
  have l1 : x * 2 ^ s % 18446744073709551616 < 18446744073709551616 := Nat.mod_lt _ (by decide)
  have l2 : x / 2 ^ (64 - s) < 18446744073709551616 := Nat.lt_of_le_of_lt (Nat.div_le_self _ _) hx
  rw [e1, e2, u64_or_nat _ _ l1 l2]
  have := rotl_shifts 64 x s hx hs
  rw [show (2 : Nat) ^ 64 = 18446744073709551616 from rfl] at this
  rw [this]
theorem rotw_u64 (x s : Nat) (hx : x < 18446744073709551616) (hs : s < 64) : bits .or .u64 (IntKind.u64.wrap ((x : Int) * 2 ^ s)) ((x : Int) / 2 ^ (64 - s)) = ((rotl 64 x s : Nat) : Int) := by
  rw [wrapw_u64]; exact rotm_u64 x s hx hs
/-- a call through a function value in a slot -/
theorem wpList_slot {P : Program} {ops : Array Oper} {Q : Exit → Act → World → Prop} {a : Act} {w : World} {rest : List Oper} {o : Oper}
    (hw : Region.wanted o (yielded ops a.tmps) = true) (t : Tmp) (f : FuncId) (xs : Array Operand) (ats : Array TypeId)
    (ho : o.op = .call { callee := .value (.tmp t), args := xs, argTypes := ats }) (hv : a.eval (.tmp t) = .func (.func f) #[] #[])
    (hf : ∀ args w, (callFunc f args).run P w = .ok (.enter f args) w)
    (h : ∀ K : Act → World → Prop, (∀ a w, wpList P ops Q rest a w → K a w) → Calls P f (#[] ++ xs.map a.eval ++ #[]) w fun
      | .returned v, w'' => K (a.put o.dst v) w''
      | .panicked chain, w'' => Q (.panic chain) a w''
      | .outgrown, _ => LetsOut Q) : wpList P ops Q (o :: rest) a w :=
  BigFrame.wpList_want hw fun K hK => by
    have e : execOp a.eval o = (do let d ← Deferred.ofValue (.func (.func f) #[] #[]) (xs.map a.eval); invoke d.target d.args) := by
      unfold execOp
      rw [ho]
      simp only [resolve]
      rw [hv]
    unfold Oper.wp
    rw [e]
    have e2 : (do let d ← Deferred.ofValue (.func (.func f) #[] #[]) (xs.map a.eval); invoke d.target d.args) = callFunc f (#[] ++ xs.map a.eval ++ #[]) := rfl
    rw [e2, hf]
    exact h K hK
end Go.Lathe
