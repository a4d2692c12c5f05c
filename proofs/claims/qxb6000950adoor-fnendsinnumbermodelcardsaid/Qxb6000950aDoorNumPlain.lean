import Derived.Test.Qxb6000950aDoorPlain
import Derived.Lib.SlTrimSet
import Derived.Lib.Strings
/-! THE PLAIN LAW of endsInNumber: no Go in sight. -/
namespace Go.Proofs.Qxb6000950aDoor
namespace Plain
open Go.Lib

def dec : List UInt8 := [48, 49, 50, 51, 52, 53, 54, 55, 56, 57]
def hex : List UInt8 := [48, 49, 50, 51, 52, 53, 54, 55, 56, 57, 97, 98, 99, 100, 101, 102]
def isDec (b : UInt8) : Bool := decide (48 ≤ b.toNat) && decide (b.toNat ≤ 57)
def isHex (b : UInt8) : Bool := isDec b || (decide (97 ≤ b.toNat) && decide (b.toNat ≤ 102))

theorem byte_all {p : UInt8 → Bool} (h : ((List.range 256).all fun n => p (UInt8.ofNat n)) = true) (b : UInt8) : p b = true := by
  have hb : b.toNat < 256 := b.toNat_lt
  have := List.all_eq_true.1 h b.toNat (List.mem_range.2 hb)
  rwa [UInt8.ofNat_toNat] at this
theorem dec_is (b : UInt8) : dec.contains b = isDec b := by
  have := byte_all (p := fun b => dec.contains b == isDec b) (by decide +kernel) b
  exact beq_iff_eq.1 this
theorem hex_is (b : UInt8) : hex.contains b = isHex b := by
  have := byte_all (p := fun b => hex.contains b == isHex b) (by decide +kernel) b
  exact beq_iff_eq.1 this

theorem dropWhile_nil {p : UInt8 → Bool} : ∀ (l : List UInt8), l.dropWhile p = [] ↔ ∀ b ∈ l, p b = true
  | [] => by simp
  | x :: t => by
    by_cases h : p x = true
    · rw [List.dropWhile_cons_of_pos h, dropWhile_nil t]; simp [h]
    · rw [List.dropWhile_cons_of_neg h]; simp [h]
theorem dropWhile_head {p : UInt8 → Bool} : ∀ (l : List UInt8) (x : UInt8) (t : List UInt8), l.dropWhile p = x :: t → p x = false
  | [], _, _, h => by simp at h
  | y :: u, x, t, h => by
    by_cases hy : p y = true
    · rw [List.dropWhile_cons_of_pos hy] at h; exact dropWhile_head u x t h
    · rw [List.dropWhile_cons_of_neg hy] at h
      cases h
      simpa using hy

theorem trimS_empty (l cs : List UInt8) : (trimS l cs).isEmpty = l.all (cs.contains ·) := by
  rw [Bool.eq_iff_iff, List.isEmpty_iff, List.all_eq_true]
  unfold trimS trimLeftS
  rw [dropWhile_nil]
  unfold trimRightS
  constructor
  · intro h
    have : l.reverse.dropWhile (cs.contains ·) = [] := by
      cases hd : l.reverse.dropWhile (cs.contains ·) with
      | nil => rfl
      | cons x t =>
        have h1 := dropWhile_head _ _ _ hd
        have h2 := h x (by rw [hd]; simp)
        rw [h1] at h2
        cases h2
    have := (dropWhile_nil _).1 this
    intro b hb
    exact this b (by simpa using hb)
  · intro h
    have : l.reverse.dropWhile (cs.contains ·) = [] := (dropWhile_nil _).2 (fun b hb => h b (by simpa using hb))
    rw [this]
    simp

/-- A numeric label. -/
def num (l : List UInt8) : Bool := (!l.isEmpty && l.all isDec) || (hasPrefix l [48, 120] && (l.drop 2).all isHex)

/-- As endsInNumber asks it. -/
theorem num_trim (l : List UInt8) : ((!l.isEmpty && (trimS l dec).isEmpty) || (hasPrefix l [48, 120] && (trimS (trimPrefix l [48, 120]) hex).isEmpty)) = num l := by
  rw [trimS_empty, trimS_empty]
  have e1 : (fun b => dec.contains b) = isDec := funext dec_is
  have e2 : (fun b => hex.contains b) = isHex := funext hex_is
  rw [e1, e2]
  unfold num trimPrefix
  cases h : hasPrefix l [48, 120] with
  | false => simp
  | true => simp

/-- THE LAST LABEL: whoever scans back to the last dot finds it. -/
theorem last_label {t A y : List UInt8} {i : Nat} (ht : t = A ++ y) (hy : (46 : UInt8) ∉ y) (hA : A = [] ∨ A.getLast? = some 46)
    (hi : i ≤ t.length) (hd : ∀ j, i ≤ j → t[j]? ≠ some 46) (h0 : i = 0 ∨ t[i - 1]? = some 46) : t.drop i = y := by
  have hia : i = A.length := by
    rcases Nat.lt_trichotomy i A.length with h | h | h
    · exfalso
      rcases hA with rfl | hA
      · simp at h
      · rw [List.getLast?_eq_getElem?] at hA
        refine hd (A.length - 1) (by omega) ?_
        rw [ht, List.getElem?_append_left (by omega)]
        exact hA
    · exact h
    · exfalso
      rcases h0 with h0 | h0
      · omega
      · rw [ht, List.getElem?_append_right (by omega)] at h0
        exact hy (List.mem_of_getElem? h0)
  subst hia
  rw [ht]
  simp

theorem jn_last (xs : List (List UInt8)) (y : List UInt8) : ∃ A, jn (xs ++ [y]) = A ++ y ∧ (A = [] ∨ A.getLast? = some 46) := by
  by_cases h : xs = []
  · subst h; exact ⟨[], by simp [jn], .inl rfl⟩
  · exact ⟨jn xs ++ [46], by rw [jn_snoc _ _ h]; simp, .inr (by simp)⟩

end Plain
end Go.Proofs.Qxb6000950aDoor
