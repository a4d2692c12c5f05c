import Derived.WalkKit
/-! THE PLAIN LAW of containsFold at ASCII bytes: no Go in sight. -/
namespace Go.Proofs.Qxb6002445aDoor
namespace Plain

def lower (b : UInt8) : UInt8 := if 65 ≤ b.toNat ∧ b.toNat ≤ 90 then b + 32 else b
def upper (b : UInt8) : UInt8 := if 97 ≤ b.toNat ∧ b.toNat ≤ 122 then b - 32 else b

theorem byte_all {p : UInt8 → Bool} (h : ((List.range 256).all fun n => p (UInt8.ofNat n)) = true) (b : UInt8) : p b = true := by
  have hb : b.toNat < 256 := b.toNat_lt
  have := List.all_eq_true.1 h b.toNat (List.mem_range.2 hb)
  rwa [UInt8.ofNat_toNat] at this
theorem lower_lower (b : UInt8) : lower (lower b) = lower b :=
  beq_iff_eq.1 (byte_all (p := fun b => lower (lower b) == lower b) (by decide +kernel) b)
theorem lower_upper (b : UInt8) : lower (upper b) = lower b :=
  beq_iff_eq.1 (byte_all (p := fun b => lower (upper b) == lower b) (by decide +kernel) b)
theorem lower_ascii (b : UInt8) (h : b.toNat < 128) : (lower b).toNat < 128 := by
  have := byte_all (p := fun b => decide (b.toNat < 128 → (lower b).toNat < 128)) (by decide +kernel) b
  exact of_decide_eq_true this h
theorem upper_ascii (b : UInt8) (h : b.toNat < 128) : (upper b).toNat < 128 := by
  have := byte_all (p := fun b => decide (b.toNat < 128 → (upper b).toNat < 128)) (by decide +kernel) b
  exact of_decide_eq_true this h
theorem lower_up {b : UInt8} (h : 65 ≤ b.toNat) (h2 : b.toNat ≤ 90) : (lower b).toNat = b.toNat + 32 := by
  have := byte_all (p := fun b => decide (65 ≤ b.toNat → b.toNat ≤ 90 → (lower b).toNat = b.toNat + 32)) (by decide +kernel) b
  exact of_decide_eq_true this h h2
theorem upper_lo {b : UInt8} (h : 97 ≤ b.toNat) (h2 : b.toNat ≤ 122) : (upper b).toNat = b.toNat - 32 := by
  have := byte_all (p := fun b => decide (97 ≤ b.toNat → b.toNat ≤ 122 → (upper b).toNat = b.toNat - 32)) (by decide +kernel) b
  exact of_decide_eq_true this h h2
theorem lower_id {b : UInt8} (h : ¬ (65 ≤ b.toNat ∧ b.toNat ≤ 90)) : lower b = b := by unfold lower; rw [if_neg h]
theorem upper_id {b : UInt8} (h : ¬ (97 ≤ b.toNat ∧ b.toNat ≤ 122)) : upper b = b := by unfold upper; rw [if_neg h]

/-- When two bytes fold to one: they are one, or one is the upper case of the other. -/
theorem fold_iff (a b : UInt8) : lower a = lower b ↔ a.toNat = b.toNat ∨ (65 ≤ a.toNat ∧ a.toNat ≤ 90 ∧ b.toNat = a.toNat + 32) ∨ (65 ≤ b.toNat ∧ b.toNat ≤ 90 ∧ a.toNat = b.toNat + 32) := by
  rw [← UInt8.toNat_inj]
  by_cases ha : 65 ≤ a.toNat ∧ a.toNat ≤ 90
  · rw [lower_up ha.1 ha.2]
    by_cases hb : 65 ≤ b.toNat ∧ b.toNat ≤ 90
    · rw [lower_up hb.1 hb.2]; omega
    · rw [lower_id hb]; omega
  · rw [lower_id ha]
    by_cases hb : 65 ≤ b.toNat ∧ b.toNat ≤ 90
    · rw [lower_up hb.1 hb.2]; omega
    · rw [lower_id hb]; omega

/-- Does y lie in x at place i? -/
def hit (x y : List UInt8) (i : Nat) : Bool := (x.drop i).take y.length == y
/-- Does y lie in x? -/
def F (x y : List UInt8) : Bool := (List.range (x.length + 1)).any fun i => decide (i + y.length ≤ x.length) && hit x y i

theorem F_hit {x y : List UInt8} {i : Nat} (h : i + y.length ≤ x.length) (hh : hit x y i = true) : F x y = true := by
  unfold F
  rw [List.any_eq_true]
  exact ⟨i, List.mem_range.2 (by omega), by rw [hh, decide_eq_true h]; rfl⟩
theorem F_none {x y : List UInt8} {k : Nat} (h : ∀ j, j < k → hit x y j = false) (hk : x.length < k + y.length) : F x y = false := by
  unfold F
  rw [List.any_eq_false]
  intro i _ hi
  rw [Bool.and_eq_true, decide_eq_true_iff] at hi
  have := h i (by omega)
  rw [this] at hi
  cases hi.2

theorem map_lower_lower (l : List UInt8) : (l.map lower).map lower = l.map lower := by
  rw [List.map_map]; exact List.map_congr_left fun b _ => lower_lower b
theorem map_lower_upper (l : List UInt8) : (l.map upper).map lower = l.map lower := by
  rw [List.map_map]; exact List.map_congr_left fun b _ => lower_upper b
theorem hit_map (x y : List UInt8) (i : Nat) : hit (x.map lower) (y.map lower) i = (((x.drop i).take y.length).map lower == y.map lower) := by
  unfold hit; rw [List.length_map, List.map_take, List.map_drop]

/-- The first k bytes fold alike. -/
def alike (x y : List UInt8) (k : Nat) : Prop := (x.take k).map lower = (y.take k).map lower
theorem alike_zero (x y : List UInt8) : alike x y 0 := by simp [alike]
theorem alike_succ {x y : List UInt8} {k : Nat} (hx : k < x.length) (hy : k < y.length) (h : alike x y k) (e : lower x[k] = lower y[k]) : alike x y (k + 1) := by
  unfold alike at *
  rw [List.take_succ_eq_append_getElem hx, List.take_succ_eq_append_getElem hy, List.map_append, List.map_append, h, List.map_singleton, List.map_singleton, e]
theorem alike_all {x y : List UInt8} (hl : x.length = y.length) (h : alike x y x.length) : (x.map lower == y.map lower) = true := by
  unfold alike at h
  rw [List.take_of_length_le (Nat.le_refl _), List.take_of_length_le (by omega)] at h
  rw [h]; simp
theorem alike_not {x y : List UInt8} {k : Nat} (hx : k < x.length) (hy : k < y.length) (e : lower x[k] ≠ lower y[k]) : (x.map lower == y.map lower) = false := by
  rw [beq_eq_false_iff_ne]
  intro h
  apply e
  have h1 : (x.map lower)[k]? = (y.map lower)[k]? := by rw [h]
  rw [List.getElem?_map, List.getElem?_map, List.getElem?_eq_getElem hx, List.getElem?_eq_getElem hy] at h1
  exact Option.some.inj h1

/-- The same for bytes as they are. -/
def same (x y : List UInt8) (k : Nat) : Prop := x.take k = y.take k
theorem same_zero (x y : List UInt8) : same x y 0 := by simp [same]
theorem same_succ {x y : List UInt8} {k : Nat} (hx : k < x.length) (hy : k < y.length) (h : same x y k) (e : x[k] = y[k]) : same x y (k + 1) := by
  unfold same at *
  rw [List.take_succ_eq_append_getElem hx, List.take_succ_eq_append_getElem hy, h, e]
theorem same_all {x y : List UInt8} (hl : x.length = y.length) (h : same x y x.length) : (x == y) = true := by
  unfold same at h
  rw [List.take_of_length_le (Nat.le_refl _), List.take_of_length_le (by omega)] at h
  rw [h]; simp
theorem same_not {x y : List UInt8} {k : Nat} (hx : k < x.length) (hy : k < y.length) (e : x[k] ≠ y[k]) : (x == y) = false := by
  rw [beq_eq_false_iff_ne]
  intro h
  subst h
  exact e rfl

end Plain
end Go.Proofs.Qxb6002445aDoor
