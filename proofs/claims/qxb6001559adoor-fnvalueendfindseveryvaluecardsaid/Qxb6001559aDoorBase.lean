import Derived.Test.Qxb6001559aDoorElement
import Derived.Test.Qxb6001559aDoorClones
/-! buildJSON: what its loops keep. -/
namespace Go.Proofs.Qxb6001559aDoor
open Go.RowKit Plain

theorem results_tmp4 {fn : Func} {t u v x : Tmp} (h : fn.results = #[.tmp t, .tmp u, .tmp v, .tmp x]) (tmps : Array Value) (P : Program) (w : World) :
    (results fn tmps).run P w = .ok (.tuple #[tmps.getD t undef, tmps.getD u undef, tmps.getD v undef, tmps.getD x undef]) w := by
  simp [results, h]

/-- The builder as it is laid. -/
theorem jb_new (w : World) (sv : Value) : JB (w.alloc (.cells #[.slice none 0 0, .slice none 0 0, .slice none 0 0, .slice none 0 0, .slice none 0 0, .slice none 0 0, sv, .int .i64 0] 33)) w.heap.size (fun _ => .slice none 0 0) sv St.empty := by
  have hc : ∀ i, (w.alloc (.cells #[.slice none 0 0, .slice none 0 0, .slice none 0 0, .slice none 0 0, .slice none 0 0, .slice none 0 0, sv, .int .i64 0] 33)).cell? ⟨w.heap.size, i, none⟩ = (#[.slice none 0 0, .slice none 0 0, .slice none 0 0, .slice none 0 0, .slice none 0 0, .slice none 0 0, sv, .int .i64 0] : Array Value)[i]? := fun i => World.cell?_alloc_at _ _ _ _ rfl
  refine ⟨by simp, fun i hi => ?_, hc 6, hc 7, fun i => ?_, fun i hi => ?_, fun i j _ _ _ => .inl rfl⟩
  · rw [hc i]
    match i, hi with
    | 0, _ => rfl
    | 1, _ => rfl
    | 2, _ => rfl
    | 3, _ => rfl
    | 4, _ => rfl
    | 5, _ => rfl
    | n + 6, h => omega
  · simp
  · have : X St.empty i = [] := by
      match i, hi with
      | 0, _ => rfl
      | 1, _ => rfl
      | 2, _ => rfl
      | 3, _ => rfl
      | 4, _ => rfl
      | 5, _ => rfl
      | n + 6, h => omega
    rw [this]
    exact World.ownsRow_nil _ _ _ 1

/-- A raw value at the end: of the bare root, or a member of the innermost bracket. -/
def PB (bare : Bool) (st : St) : Prop := (st.kinds = [] ∧ bare = true) ∨ ∃ cs c, st.counts = cs ++ [c] ∧ 0 < c
theorem ok_empty (strs : List ByteArray) : Ok strs 0 False St.empty := ⟨inv_empty, ⟨Nat.le_refl _, Nat.le_refl _, Nat.le_refl _, Nat.le_refl _, Nat.le_refl _, Nat.le_refl _, by simp [St.empty]⟩, Nat.zero_le _⟩
/-- The three stacks at a bracket that is open. -/
theorem Ok.open {strs : List ByteArray} {N : Nat} {bare : Bool} {st : St} (h : Ok strs N (PB bare st) st) (hk : st.kinds ≠ []) :
    ∃ ks kc ss slot cs c, st.kinds = ks ++ [kc] ∧ st.slots = ss ++ [slot] ∧ st.counts = cs ++ [c] ∧ ss.length = ks.length ∧ cs.length = ks.length ∧ slot < st.ends.length ∧ Ok strs N (0 < c) st := by
  obtain ⟨ks, kc, ek⟩ := list_last hk
  have h1 := h.inv.hs
  have h2 := h.inv.hk
  rw [ek, List.length_append] at h1 h2
  obtain ⟨ss, slot, es⟩ := list_last (l := st.slots) (fun e => by rw [e] at h1; simp at h1)
  obtain ⟨cs, c, ec⟩ := list_last (l := st.counts) (fun e => by rw [e] at h2; simp at h2)
  refine ⟨ks, kc, ss, slot, cs, c, ek, es, ec, ?_, ?_, ?_, h.mono (Nat.le_refl _) ?_⟩
  · rw [es] at h1; simpa using h1
  · rw [ec] at h2; simpa using h2
  · rw [← h.inv.hl]; exact h.inv.sl slot (by rw [es]; simp)
  · rintro (⟨e, _⟩ | ⟨cs', c', e, hc⟩)
    · exact absurd e hk
    · rw [ec] at e
      obtain ⟨_, e2⟩ := List.append_inj' e rfl
      simp at e2; omega
/-- The bracket stack's length, off the world. -/
def kl (B : Nat) (w : World) : Nat := match w.cell? ⟨B, 3, none⟩ with | some (.slice _ n _) => n | _ => 0
theorem JB.kl {w : World} {B : Nat} {R : Nat → Value} {sv : Value} {st : St} (h : JB w B R sv st) : kl B w = st.kinds.length := by
  obtain ⟨a, c, e⟩ := h.form (i := 3) (by omega)
  unfold Proofs.Qxb6001559aDoor.kl
  rw [h.cell 3 (by omega), e]
  show (vb st.kinds).length = _
  simp [vb]
theorem JB.kinds {w : World} {B : Nat} {R : Nat → Value} {sv : Value} {st : St} (h : JB w B R sv st) : ∃ a c, w.cell? ⟨B, 3, none⟩ = some (.slice a st.kinds.length c) := by
  obtain ⟨a, c, e⟩ := h.form (i := 3) (by omega)
  refine ⟨a, c, ?_⟩
  rw [h.cell 3 (by omega), e]
  show some (Value.slice a (vb st.kinds).length c) = _
  simp [vb]
theorem len_zero {α : Type} {l : List α} (h : l = []) : l.length = 0 := by rw [h]; rfl
/-- What buildJSON hands out. -/
structure Built (w : World) (B : Nat) (w' : World) (R : Nat → Value) (sv : Value) (bare : Bool) (st : St) : Prop where
  jb : JB w' B R sv st
  done : Done (bare = true) st
  sz : Sz 130000000 st
  same : st.starts.length = st.ends.length
  below : Below B w w'
end Go.Proofs.Qxb6001559aDoor
