import Derived.WalkKit
import Derived.Laws.BitsAllLaws
/-! BITS of a uint64, as numbers: no Go in sight but for the model's 'bits' and 'wrap'. -/
namespace Go.Proofs.Qxb6600738aDoor
open Go.RowKit

/-- r with bit n set. -/
def orb (r n : Nat) : Nat := r ||| 2 ^ n
theorem pow_lt {n : Nat} (h : n < 64) : 2 ^ n < 18446744073709551616 := by
  have : (2 : Nat) ^ n < 2 ^ 64 := Nat.pow_lt_pow_right (by decide) h
  simpa using this
theorem wrap_pow {n : Nat} (h : n < 64) : IntKind.u64.wrap (2 ^ n) = ((2 ^ n : Nat) : Int) := by
  have hp := pow_lt h
  have e : ((2 : Int) ^ n) = ((2 ^ n : Nat) : Int) := by rw [Int.natCast_pow]; rfl
  rw [IntKind.wrap_u64, e]
  generalize 2 ^ n = p at hp ⊢
  omega
theorem or_bit {r n : Nat} (hr : r < 18446744073709551616) (h : n < 64) : bits .or .u64 (r : Int) (IntKind.u64.wrap (2 ^ n)) = ((orb r n : Nat) : Int) := by
  rw [wrap_pow h, u64_or_nat r (2 ^ n) hr (pow_lt h)]; rfl
theorem orb_lt {r n : Nat} (hr : r < 18446744073709551616) (h : n < 64) : orb r n < 18446744073709551616 := by
  have h1 : r < 2 ^ 64 := by simpa using hr
  have h2 : 2 ^ n < 2 ^ 64 := by simpa using pow_lt h
  have := Nat.or_lt_two_pow h1 h2
  simpa [orb] using this

/-- r, with bit n set where it is asked. -/
def rq (req : Bool) (r n : Nat) : Nat := if req then orb r n else r

/-- The low n bits of r. -/
def low (r n : Nat) : Nat := r % 2 ^ n
theorem low_lt (r n : Nat) : low r n < 2 ^ n := Nat.mod_lt _ (Nat.two_pow_pos n)
theorem low_zero (r : Nat) : low r 0 = 0 := by simp [low, Nat.mod_one]
theorem low_succ_set {r n : Nat} (h : r.testBit n = true) : low r (n + 1) = orb (low r n) n := by
  apply Nat.eq_of_testBit_eq
  intro i
  unfold low orb
  rw [Nat.testBit_or, Nat.testBit_mod_two_pow, Nat.testBit_mod_two_pow, Nat.testBit_two_pow]
  rcases Nat.lt_trichotomy i n with hi | hi | hi
  · simp [hi, Nat.lt_succ_of_lt hi, Nat.ne_of_gt hi]
  · subst hi; simp [h]
  · simp [Nat.not_lt_of_gt hi, Nat.ne_of_lt hi, show ¬ i < n + 1 by omega]
theorem low_succ_clear {r n : Nat} (h : r.testBit n = false) : low r (n + 1) = low r n := by
  apply Nat.eq_of_testBit_eq
  intro i
  unfold low
  rw [Nat.testBit_mod_two_pow, Nat.testBit_mod_two_pow]
  rcases Nat.lt_trichotomy i n with hi | hi | hi
  · simp [hi, Nat.lt_succ_of_lt hi]
  · subst hi; simp [h]
  · simp [Nat.not_lt_of_gt hi, show ¬ i < n + 1 by omega]
theorem low_64 {r : Nat} (h : r < 18446744073709551616) : low r 64 = r := Nat.mod_eq_of_lt (by simpa using h)

/-- (r >> n) & 1 == 1. -/
theorem bit_is (r n : Nat) : ((r >>> n) &&& 1 == 1) = r.testBit n := by
  simp [Nat.testBit, Nat.and_comm]
theorem bit_form {r k : Nat} (hr : r < 18446744073709551616) (hk : k < 64) : (bits .and .u64 ((r : Int) / 2 ^ min (IntKind.u64.wrap (k : Int)).toNat 64) 1 == 1) = r.testBit k := by
  have e1 : (IntKind.u64.wrap (k : Int)).toNat = k := by rw [IntKind.wrap_u64]; omega
  have e2 : min k 64 = k := by omega
  have e3 : ((r : Int) / 2 ^ k) = ((r >>> k : Nat) : Int) := by
    rw [Nat.shiftRight_eq_div_pow, Int.natCast_ediv, Int.natCast_pow]; rfl
  have hlt : r >>> k < 18446744073709551616 := Nat.lt_of_le_of_lt (by rw [Nat.shiftRight_eq_div_pow]; exact Nat.div_le_self _ _) hr
  rw [e1, e2, e3, show (1 : Int) = ((1 : Nat) : Int) from rfl, u64_and_nat _ 1 hlt (by decide), ← bit_is]
  rw [Bool.eq_iff_iff, beq_iff_eq, beq_iff_eq]
  omega
theorem rq_low {r k : Nat} : rq (r.testBit k) (low r k) k = low r (k + 1) := by
  unfold rq
  cases h : r.testBit k with
  | true => rw [if_pos rfl, low_succ_set h]
  | false => rw [if_neg (by simp), low_succ_clear h]
theorem low_64lt {r k : Nat} (h : k ≤ 64) : low r k < 18446744073709551616 := by
  have h1 := low_lt r k
  have : 2 ^ k ≤ 2 ^ 64 := Nat.pow_le_pow_right (by decide) h
  have h64 : (2 : Nat) ^ 64 = 18446744073709551616 := by decide
  omega
/-- The low n bits set. -/
def mask (n : Nat) : Nat := 2 ^ n - 1
theorem mask_eq {n : Nat} (h : n < 64) : IntKind.u64.wrap (IntKind.u64.wrap (2 ^ n) - 1) = (mask n : Int) := by
  rw [wrap_pow h, IntKind.wrap_u64]
  have hp := pow_lt h
  have h0 := Nat.two_pow_pos n
  unfold mask
  generalize 2 ^ n = p at hp h0 ⊢
  omega
theorem mask_lt {n : Nat} (h : n ≤ 64) : mask n < 18446744073709551616 := by
  unfold mask
  have : 2 ^ n ≤ 2 ^ 64 := Nat.pow_le_pow_right (by decide) h
  have h64 : (2 : Nat) ^ 64 = 18446744073709551616 := by decide
  omega
theorem and_mask {r n : Nat} (hr : r < 18446744073709551616) (h : n ≤ 64) : bits .and .u64 (r : Int) (mask n : Int) = (low r n : Int) := by
  rw [u64_and_nat r (mask n) hr (mask_lt h), mask, Nat.and_two_pow_sub_one_eq_mod]; rfl
end Go.Proofs.Qxb6600738aDoor
