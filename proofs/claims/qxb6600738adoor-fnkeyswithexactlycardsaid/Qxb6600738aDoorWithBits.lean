import Derived.Test.Qxb6600738aDoorBits
/-! BITS for With: no Go in sight but for the model's 'bits' and 'wrap'. -/
namespace Go.Proofs.Qxb6600738aDoor
open Go.RowKit

/-- r, with the first j bits of b set from n on. -/
def wset (r b n : Nat) : Nat → Nat
  | 0 => r
  | j + 1 => rq (b.testBit j) (wset r b n j) (n + j)
theorem wset_zero (r b n : Nat) : wset r b n 0 = r := rfl
theorem wset_succ (r b n j : Nat) : wset r b n (j + 1) = rq (b.testBit j) (wset r b n j) (n + j) := rfl
theorem rq_lt {q : Bool} {r n : Nat} (hr : r < 18446744073709551616) (h : n < 64) : rq q r n < 18446744073709551616 := by
  unfold rq
  split
  · exact orb_lt hr h
  · exact hr
theorem wset_lt {r b n j : Nat} (hr : r < 18446744073709551616) (h : n + j ≤ 64) : wset r b n j < 18446744073709551616 := by
  induction j with
  | zero => exact hr
  | succ j ih => exact rq_lt (ih (by omega)) (by omega)
theorem wset_all (r b n j : Nat) : wset r b n j = r ||| (low b j) <<< n := by
  induction j with
  | zero => simp [wset, low_zero]
  | succ j ih =>
    rw [wset_succ, ih]
    cases hb : b.testBit j with
    | true =>
      rw [low_succ_set hb]
      simp only [rq, orb, if_true]
      rw [Nat.shiftLeft_or_distrib, Nat.or_assoc, Nat.add_comm n j, Nat.pow_add, Nat.shiftLeft_eq (2 ^ j) n]
    | false => rw [low_succ_clear hb]; simp [rq]

theorem and_pow (b j : Nat) : b &&& 2 ^ j = if b.testBit j then 2 ^ j else 0 := by
  apply Nat.eq_of_testBit_eq
  intro i
  rw [Nat.testBit_and, Nat.testBit_two_pow]
  by_cases h : j = i
  · subst h; cases hb : b.testBit j <;> simp
  · cases hb : b.testBit j <;> simp [h]
theorem and_bit {b j : Nat} (hb : b < 18446744073709551616) (hj : j < 64) : (bits .and .u64 (b : Int) (IntKind.u64.wrap (2 ^ j)) == 0) = !b.testBit j := by
  rw [wrap_pow hj, u64_and_nat b (2 ^ j) hb (pow_lt hj), and_pow]
  have hp := Nat.two_pow_pos j
  cases h : b.testBit j with
  | true =>
    rw [if_pos rfl]
    generalize 2 ^ j = p at hp ⊢
    simp; omega
  | false => simp
theorem and_bit_ne {b j : Nat} (hb : b < 18446744073709551616) (hj : j < 64) : (bits .and .u64 (b : Int) (IntKind.u64.wrap (2 ^ j)) != 0) = b.testBit j := by
  rw [bne, and_bit hb hj, Bool.not_not]
theorem shl_form {b n : Nat} (hb : b <<< n < 18446744073709551616) : IntKind.u64.wrap ((b : Int) * 2 ^ n) = ((b <<< n : Nat) : Int) := by
  rw [Nat.shiftLeft_eq] at hb ⊢
  have e : ((b : Int) * 2 ^ n) = ((b * 2 ^ n : Nat) : Int) := by rw [Int.natCast_mul, Int.natCast_pow]; rfl
  rw [e, IntKind.wrap_u64]
  generalize b * 2 ^ n = p at hb ⊢
  omega
theorem shl_lt {b n m : Nat} (hb : b < 2 ^ m) (h : n + m ≤ 64) : b <<< n < 18446744073709551616 := by
  rw [Nat.shiftLeft_eq]
  have h1 : b * 2 ^ n < 2 ^ m * 2 ^ n := Nat.mul_lt_mul_of_pos_right hb (Nat.two_pow_pos n)
  rw [← Nat.pow_add] at h1
  have h2 : 2 ^ (m + n) ≤ 2 ^ 64 := Nat.pow_le_pow_right (by decide) (by omega)
  have h64 : (2 : Nat) ^ 64 = 18446744073709551616 := by decide
  omega
theorem low_id {b m : Nat} (hb : b < 2 ^ m) : low b m = b := Nat.mod_eq_of_lt hb

/-- m &^ mask == 0. -/
theorem within_form {b n : Nat} (hb : b < 18446744073709551616) (hn : n ≤ 64) : (bits .andNot .u64 (b : Int) (mask n : Int) == 0) = decide (b < 2 ^ n) := by
  rw [u64_andNot_nat b (mask n) hb (mask_lt hn)]
  have hm : mask n < 2 ^ 64 := by simpa using mask_lt hn
  have e : 18446744073709551615 - mask n = 2 ^ 64 - (mask n + 1) := by
    have h64 : (2 : Nat) ^ 64 = 18446744073709551616 := by decide
    omega
  have hbit : ∀ i, (b &&& (18446744073709551615 - mask n)).testBit i = (b.testBit i && (decide (i < 64) && !decide (i < n))) := fun i => by
    rw [Nat.testBit_and, e, Nat.testBit_two_pow_sub_succ hm, mask, Nat.testBit_two_pow_sub_one]
  by_cases h : b < 2 ^ n
  · have : b &&& (18446744073709551615 - mask n) = 0 := by
      apply Nat.eq_of_testBit_eq
      intro i
      rw [hbit, Nat.zero_testBit]
      by_cases hi : i < n
      · simp [hi]
      · rw [Nat.testBit_lt_two_pow (Nat.lt_of_lt_of_le h (Nat.pow_le_pow_right (by decide) (by omega)))]; rfl
    rw [this, decide_eq_true h]; rfl
  · have : b &&& (18446744073709551615 - mask n) ≠ 0 := by
      intro h0
      apply h
      apply Nat.lt_pow_two_of_testBit
      intro i hi
      by_cases hi2 : i < 64
      · have := hbit i
        rw [h0, Nat.zero_testBit] at this
        simpa [hi2, show ¬ i < n by omega] using this.symm
      · exact Nat.testBit_lt_two_pow (Nat.lt_of_lt_of_le (show b < 2 ^ 64 by simpa using hb) (Nat.pow_le_pow_right (by decide) (by omega)))
    rw [decide_eq_false h]
    generalize b &&& (18446744073709551615 - mask n) = p at this ⊢
    simp; omega
end Go.Proofs.Qxb6600738aDoor
