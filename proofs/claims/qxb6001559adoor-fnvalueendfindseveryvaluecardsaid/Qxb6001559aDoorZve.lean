import Derived.Test.Qxb6001559aDoorAny
import Derived.Test.Qxb6001559aDoorClones
/-! THE WALK of ZZvalueEnd; append of bytes that may be none. -/
namespace Go.Proofs.Qxb6001559aDoor
open Go.RowKit Plain

theorem at_drop {w wx : World} {b o p : Nat} {x y : Plain.Bs} (hx : At w b o x) (hb : b < w.heap.size) (hw : Below w.heap.size w wx) (e : x.drop p = y) : At wx b (o + p) y := by
  intro j hj
  subst e
  have hj' : p + j < x.length := by rw [List.length_drop] at hj; omega
  rw [hw.cell (p := ⟨b, o + p + j, none⟩) hb, Nat.add_assoc, hx (p + j) hj', List.getElem_drop]
theorem zve_walk (b c i n : Nat) (x : Plain.Bs) (w : World) (hx : At w b 0 x) (hb : b < w.heap.size) (hl : x.length ≤ 1073741824) (hc : x.length ≤ c) (h : VE 0 (x.drop i) n) :
    Calls Tryd.prog 9 #[.slice (some ⟨b, 0, none⟩) x.length c, .int .i64 (i : Int)] w fun e w' => e = .returned (.int .i64 ((i + n : Nat) : Int)) ∧ Below w.heap.size w w' := by
  have cv := valueEnd_walk b 0 c i n x w hx hl hc h (fun p t r hp e ht hs hr wx hw => by
    have := any_walk b (0 + p) (c - p) (x.length - p) t r wx (at_drop hx hb hw e) (by rw [← e, List.length_drop]) (by omega) ht hs hr
    exact this)
  clear h hx
  obtain ⟨rv, hrv⟩ : ∃ rv : Int, rv = ((i + n : Nat) : Int) := ⟨_, rfl⟩
  rw [← hrv] at cv ⊢
  clear hrv
  go_enter Tryd.func9, Tryd.ntmps9
  go_wp2_with (go_at_call 14; refine cv.mono ?_; rintro e w' ⟨rfl, hw'⟩)
  go_ret
  exact ⟨rfl, hw'⟩

/-- Bytes that can be appended: nil, or cells. -/
def Src (w : World) (v : Value) (x : Plain.Bs) : Prop :=
  (v = .slice none 0 0 ∧ x = []) ∨ ∃ a c, v = .slice (some a) x.length c ∧ ∀ j u, (vb x)[j]? = some u → w.cell? (a.add j) = some u
theorem Yb.src {w : World} {v : Value} {x : Plain.Bs} (h : Yb w v x) : Src w v x := by
  rcases h with h | ⟨a, c, rfl, rfl⟩ | ⟨b, o, c, rfl, _, _, _, hA, _⟩
  · exact .inl h
  · exact .inr ⟨a, c, rfl, by simp [vb]⟩
  · refine .inr ⟨_, c, rfl, fun j u hj => ?_⟩
    have hjl : j < x.length := by
      have := (List.getElem?_eq_some_iff.1 hj).1
      simpa [vb] using this
    rw [WideShapes.add_plain, hA j hjl]
    simp [vb, hjl] at hj
    rw [hj]
theorem ownsRow.src {w : World} {base : Nat} {v : Value} {x : Plain.Bs} (h : w.ownsRow base 5 1 v x.length (vb x)) : Src w v x := by
  rcases h.2 with ⟨h1, h2⟩ | ⟨g, cap, cur, h1, _⟩
  · exact .inl ⟨h1, List.length_eq_zero_iff.1 h2⟩
  · exact .inr ⟨_, cap, h1, h.cells (by rw [h1]; rfl)⟩
theorem run_append3 {P : Program} (w : World) (base : Nat) (t ty e : TypeId) (i : TypeInfo) (z : Value) (ht : P.underlying t = some (.slice e)) (hi : P.info? e = some i) (hz : i.zero = some z)
    (hsize : i.size = 1) (hby : i.bytes = 1) (hzs : z.cells.size = 1) (v : Value) (n : Nat) (l x : Plain.Bs) (hown : w.ownsRow base e 1 v n (vb l)) (v2 : Value) (hs : Src w v2 x)
    (h63 : n + x.length ≤ maxLen) (hbytes : (n + x.length) * 1 ≤ 140737488355328) (hbase : base ≤ w.heap.size) :
    ∃ v' w', (Builtin.append_ #[t, t] ty #[v, v2]).run P w = .ok v' w' ∧ w'.ownsRow base e 1 v' (n + x.length) (vb (l ++ x)) ∧ w.grownBy w' v.ownBlock ∧ Near w v v' := by
  rcases hs with ⟨rfl, rfl⟩ | ⟨a, c, rfl, hc⟩
  · refine ⟨v, w, run_append_owned_none (P := P) w base t ty e i 1 ht hi v n (vb l) hown, by simpa using hown, World.grownBy.refl _ _, Near.refl _ _⟩
  · obtain ⟨v', w', h1, h2, h3, h4⟩ := run_append2 (P := P) w base t ty e i z 1 ht hi hz hsize hby hzs v n (vb l) hown a x.length c (vb x) (by simp [vb]) hc (vb_one x) h63 hbytes hbase
    exact ⟨v', w', h1, by rw [vb_app]; exact h2, h3, h4⟩
/-- append as one step of a straight list. -/
theorem wpList_append3 {P : Program} {w : World} {ops : Array Oper} {rest : List Oper} {o : Oper} {a : Act} {Q : Exit → Act → World → Prop} (hgd : o.guard = none) (s y : Operand) (t : TypeId)
    (hop : o.op = .call { callee := .builtin .append, args := #[s, y], argTypes := #[t, t] })
    (base : Nat) (e : TypeId) (i : TypeInfo) (z : Value) (h1 : P.underlying t = some (.slice e)) (h2 : P.info? e = some i) (h3 : i.zero = some z) (h4 : i.size = 1) (h5 : i.bytes = 1) (h6 : z.cells.size = 1)
    (v : Value) (n : Nat) (l x : Plain.Bs) (hs : a.eval s = v) (hown : w.ownsRow base e 1 v n (vb l)) (v2 : Value) (hy : a.eval y = v2) (hsrc : Src w v2 x)
    (b1 : n + x.length ≤ maxLen) (b2 : (n + x.length) * 1 ≤ 140737488355328) (hbase : base ≤ w.heap.size)
    (h : ∀ v' w', w'.ownsRow base e 1 v' (n + x.length) (vb (l ++ x)) → w.grownBy w' v.ownBlock → Near w v v' → wpList P ops Q rest (a.put o.dst v') w') : wpList P ops Q (o :: rest) a w := by
  refine wpList_plain hgd fun K hK => ?_
  obtain ⟨v', w', hrun, r1, r2, r3⟩ := run_append3 (P := P) w base t o.type e i z h1 h2 h3 h4 h5 h6 v n l x hown v2 hsrc b1 b2 hbase
  unfold Oper.wp
  simp [execOp, hop, resolve, invoke, builtin, hs, hy, hrun, Result.andThen]
  exact hK _ _ (h v' w' r1 r2 r3)
end Go.Proofs.Qxb6001559aDoor
