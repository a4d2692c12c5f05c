import Derived.Lib.SplitLaws
/-! THE PLAIN LAW of hostLabels: no Go in sight. Lists of bytes; 46 is the dot. -/
namespace Go.Proofs.Qxb6000950aDoor
namespace Plain
open Go.Lib

/-- Labels joined by dots. -/
def jn : List (List UInt8) → List UInt8
  | [] => []
  | x :: t => x ++ t.flatMap (fun y => 46 :: y)

theorem jn_one (y : List UInt8) : jn [y] = y := by simp [jn]
theorem jn_snoc (xs : List (List UInt8)) (y : List UInt8) (h : xs ≠ []) : jn (xs ++ [y]) = jn xs ++ 46 :: y := by
  cases xs with
  | nil => exact absurd rfl h
  | cons x t => simp [jn]
theorem jn_cons (x : List UInt8) (t : List (List UInt8)) (h : t ≠ []) : jn (x :: t) = x ++ 46 :: jn t := by
  cases t with
  | nil => exact absurd rfl h
  | cons y u => simp [jn]

/-- Less one trailing dot. -/
def want (s : List UInt8) : List UInt8 := if s.getLast? = some 46 then s.dropLast else s

theorem ix_none : ∀ s : List UInt8, index s [46] = -1 → (46 : UInt8) ∉ s
  | [], _ => by simp
  | b :: l, h => by
    unfold index at h
    by_cases hb : b = 46
    · subst hb; simp [List.isPrefixOf] at h
    · have hp : ([46] : List UInt8).isPrefixOf (b :: l) = false := by simp [List.isPrefixOf, Ne.symm hb]
      rw [hp] at h
      by_cases hm : index l [46] = -1
      · have := ix_none l hm
        simp [this, Ne.symm hb]
      · have hge := index_ge l [46]
        rw [if_neg (by simp), if_neg (fun e => hm (beq_iff_eq.1 e))] at h
        omega

theorem ix_hit : ∀ (s : List UInt8) (i : Nat), index s [46] = i → (46 : UInt8) ∉ s.take i ∧ s = s.take i ++ 46 :: s.drop (i + 1)
  | [], i, h => by simp [index] at h
  | b :: l, i, h => by
    unfold index at h
    by_cases hb : b = 46
    · subst hb
      simp [List.isPrefixOf] at h
      have : i = 0 := by omega
      subst this
      simp
    · have hp : ([46] : List UInt8).isPrefixOf (b :: l) = false := by simp [List.isPrefixOf, Ne.symm hb]
      rw [hp] at h
      have hge := index_ge l [46]
      by_cases hm : index l [46] = -1
      · rw [if_neg (by simp), if_pos (beq_iff_eq.2 hm)] at h; omega
      · rw [if_neg (by simp), if_neg (fun e => hm (beq_iff_eq.1 e))] at h
        obtain ⟨j, hj⟩ : ∃ j : Nat, index l [46] = j := ⟨(index l [46]).toNat, by omega⟩
        have hi : i = j + 1 := by omega
        subst hi
        obtain ⟨h1, h2⟩ := ix_hit l j hj
        refine ⟨?_, ?_⟩
        · simp [h1, Ne.symm hb]
        · simp only [List.take_succ_cons, List.drop_succ_cons, List.cons_append, List.cons.injEq, true_and]
          exact h2

/-- Split at every dot: joined again it is the text; no piece holds a dot; there is a piece. -/
theorem split_good : ∀ (k : Nat) (s : List UInt8), count s [46] = k →
    jn (splitK [46] 0 k s) = s ∧ (∀ p ∈ splitK [46] 0 k s, (46 : UInt8) ∉ p) ∧ splitK [46] 0 k s ≠ []
  | 0, s, h => by
    rw [count_one] at h
    have := List.count_eq_zero.1 h
    simp [splitK, jn_one, this]
  | k + 1, s, h => by
    by_cases hm : index s [46] = -1
    · rw [count_miss hm] at h; omega
    · have hge := index_ge s [46]
      obtain ⟨i, hi⟩ : ∃ i : Nat, index s [46] = i := ⟨(index s [46]).toNat, by omega⟩
      have hc := count_hit (sub := [46]) (by simp) hi
      obtain ⟨g1, g2⟩ := ix_hit s i hi
      have e : (index s [46]).toNat = i := by omega
      have hk : count (s.drop (i + 1)) [46] = k := by
        have : ([46] : List UInt8).length = 1 := rfl
        rw [this] at hc; omega
      obtain ⟨i1, i2, i3⟩ := split_good k _ hk
      have es : splitK [46] 0 (k + 1) s = s.take i :: splitK [46] 0 k (s.drop (i + 1)) := by
        rw [splitK, if_neg (fun e => hm (beq_iff_eq.1 e)), e]; rfl
      rw [es]
      refine ⟨?_, ?_, by simp⟩
      · rw [jn_cons _ _ i3, i1]; exact g2.symm
      · intro p hp
        rcases List.mem_cons.1 hp with rfl | hp
        · exact g1
        · exact i2 p hp

/-- What hostLabels hands back of the pieces. -/
def lab (ls : List (List UInt8)) : List (List UInt8) := if 1 < ls.length ∧ ls.getLast? = some [] then ls.dropLast else ls

theorem lab_ne {ls : List (List UInt8)} (h : ls ≠ []) : lab ls ≠ [] := by
  unfold lab
  split
  · rename_i hc
    intro e
    have := congrArg List.length e
    simp at this
    omega
  · exact h

theorem lab_want {s : List UInt8} {ls : List (List UInt8)} (h1 : jn ls = s) (h2 : ∀ p ∈ ls, (46 : UInt8) ∉ p) (h3 : ls ≠ []) : jn (lab ls) = want s := by
  obtain ⟨xs, y, rfl⟩ : ∃ xs y, ls = xs ++ [y] := ⟨ls.dropLast, ls.getLast h3, (List.dropLast_concat_getLast h3).symm⟩
  have hy : (46 : UInt8) ∉ y := h2 y (by simp)
  have hly : y.getLast? ≠ some 46 := fun e => hy (List.mem_of_getLast? e)
  unfold lab want
  simp only [List.getLast?_concat, List.length_append, List.length_cons, List.length_nil, Option.some.injEq, List.dropLast_concat]
  by_cases hx : xs = []
  · subst hx
    simp only [List.nil_append, jn_one] at h1
    subst h1
    rw [if_neg (by simp), if_neg hly, List.nil_append, jn_one]
  · have hxl : 0 < xs.length := List.length_pos_iff.2 hx
    rw [jn_snoc xs y hx] at h1
    subst h1
    by_cases hy0 : y = []
    · subst hy0
      rw [if_pos ⟨by omega, rfl⟩, if_pos (by simp)]
      simp
    · rw [if_neg (fun e => hy0 e.2), jn_snoc xs y hx]
      have : (jn xs ++ 46 :: y).getLast? = y.getLast? := by
        rw [List.getLast?_append, List.getLast?_cons]
        cases hg : y.getLast? with
        | none => rw [List.getLast?_eq_none_iff] at hg; exact absurd hg hy0
        | some v => simp
      rw [if_neg (by rw [this]; exact hly)]

theorem lab_dots {ls : List (List UInt8)} (h2 : ∀ p ∈ ls, (46 : UInt8) ∉ p) : ∀ p ∈ lab ls, (46 : UInt8) ∉ p := by
  unfold lab
  split
  · exact fun p hp => h2 p (List.dropLast_subset _ hp)
  · exact h2

theorem jn_take_succ (ls : List (List UInt8)) (i : Nat) (h : i < ls.length) :
    jn (ls.take (i + 1)) = (if i = 0 then [] else jn (ls.take i) ++ [46]) ++ ls[i] := by
  rw [List.take_succ_eq_append_getElem h]
  by_cases h0 : i = 0
  · subst h0; simp [jn]
  · have hne : ls.take i ≠ [] := by
      intro e
      have h2 := congrArg List.length e
      rw [List.length_take, List.length_nil] at h2
      omega
    rw [if_neg h0, jn_snoc _ _ hne]
    simp

theorem jn_take_le (ls : List (List UInt8)) : ∀ i, (jn (ls.take i)).length ≤ (jn ls).length := by
  intro i
  cases ls with
  | nil => simp
  | cons x t =>
    cases i with
    | zero => simp [jn]
    | succ i =>
      simp only [List.take_succ_cons, jn, List.length_append]
      have : (List.flatMap (fun y => (46 : UInt8) :: y) (t.take i)).length ≤ (List.flatMap (fun y => (46 : UInt8) :: y) t).length := by
        conv => rhs; rw [← List.take_append_drop i t, List.flatMap_append, List.length_append]
        exact Nat.le_add_right _ _
      omega

theorem want_le (s : List UInt8) : (want s).length ≤ s.length := by
  unfold want; split <;> simp

end Plain
end Go.Proofs.Qxb6000950aDoor
