import Derived.Test.Qxb6001559aDoorPlain
/-! THE BUILDER, PLAIN: its states, its steps, what holds of them. -/
namespace Go.Proofs.Qxb6001559aDoor
namespace Plain

structure St where
  out : Bs
  starts : List Nat
  ends : List Int
  kinds : Bs
  counts : List Nat
  slots : List Nat
  next : Nat

def St.empty : St := ⟨[], [], [], [], [], [], 0⟩

/-- A value written out whose scan is settled: by itself, or as a number with a delimiter behind it. -/
def Good (out : Bs) (s : Nat) (e : Int) : Prop :=
  ∃ A V C, out = A ++ V ++ C ∧ s = A.length ∧ e = ((A.length + V.length : Nat) : Int) ∧ (Fix V ∨ (V ≠ [] ∧ (∀ c ∈ V, sc c) ∧ ∃ c C', C = c :: C' ∧ dl c))
/-- A number or literal at the very end. -/
def Raw (out : Bs) (s : Nat) (e : Int) : Prop :=
  ∃ A V, out = A ++ V ∧ s = A.length ∧ e = ((A.length + V.length : Nat) : Int) ∧ V ≠ [] ∧ ∀ c ∈ V, sc c
theorem Good.app {out : Bs} {s : Nat} {e : Int} (h : Good out s e) (x : Bs) : Good (out ++ x) s e := by
  obtain ⟨A, V, C, rfl, hs, he, h⟩ := h
  refine ⟨A, V, C ++ x, by simp, hs, he, ?_⟩
  rcases h with h | ⟨h1, h2, c, C', rfl, hc⟩
  · exact .inl h
  · exact .inr ⟨h1, h2, c, C' ++ x, rfl, hc⟩
theorem Raw.app {out : Bs} {s : Nat} {e : Int} (h : Raw out s e) {c : UInt8} (hc : dl c) (x : Bs) : Good (out ++ c :: x) s e := by
  obtain ⟨A, V, rfl, hs, he, h1, h2⟩ := h
  exact ⟨A, V, c :: x, rfl, hs, he, .inr ⟨h1, h2, c, x, rfl, hc⟩⟩

/-- The open brackets: where each stands, the outermost first. -/
inductive Lay : Bs → List Nat → Prop
  | nil {out : Bs} : Lay out []
  | step {A B : Bs} {ps : List Nat} {o : UInt8} : Lay A ps → opn o → Bal B → Lay (A ++ o :: B) (ps ++ [A.length])
theorem Lay.ext {out x : Bs} {ps : List Nat} (h : Lay out ps) (hx : ∀ B, Bal B → Bal (B ++ x)) : Lay (out ++ x) ps := by
  cases h with
  | nil => exact .nil
  | @step A B ps o hA ho hB =>
    have := Lay.step hA ho (hx B hB)
    simpa using this
theorem Lay.shut {out : Bs} {ps : List Nat} {p : Nat} (h : Lay out (ps ++ [p])) {c : UInt8} (hc : cls c) :
    ∃ A V, out ++ [c] = A ++ V ∧ p = A.length ∧ Fix V ∧ Lay (out ++ [c]) ps := by
  generalize hq : ps ++ [p] = qs at h
  cases h with
  | nil => simp at hq
  | @step A B ps' o hA ho hB =>
    obtain ⟨rfl, h2⟩ := List.append_inj' hq rfl
    obtain rfl : p = A.length := by simpa using h2
    refine ⟨A, o :: B ++ [c], by simp, rfl, fix_box ho hc hB, ?_⟩
    have := hA.ext (x := o :: B ++ [c]) (fun M hM => Bal.box hM hB ho hc)
    simpa using this

/-- Where the brackets that are open were recorded. -/
def Marks (st : St) : Prop := ∃ ps, Lay st.out ps ∧ ps.length = st.slots.length ∧ ∀ j k : Nat, st.slots[j]? = some k → st.starts[k]? = ps[j]?
/-- What holds of every state: R settles or may be raw. -/
structure Inv (R : Prop) (st : St) : Prop where
  hl : st.starts.length = st.ends.length
  hk : st.counts.length = st.kinds.length
  hs : st.slots.length = st.kinds.length
  ck : ∀ k ∈ st.kinds, cls k
  lay : Marks st
  sl : ∀ k ∈ st.slots, k < st.starts.length
  rcd : ∀ (k s : Nat) (e : Int), st.starts[k]? = some s → st.ends[k]? = some e → k ∈ st.slots ∨ Good st.out s e ∨ (R ∧ Raw st.out s e)

theorem Inv.weak {R R' : Prop} {st : St} (h : Inv R st) (hR : R → R') : Inv R' st :=
  ⟨h.hl, h.hk, h.hs, h.ck, h.lay, h.sl, fun k s e h1 h2 => (h.rcd k s e h1 h2).imp id (fun h => h.imp id (fun ⟨a, b⟩ => ⟨hR a, b⟩))⟩
theorem inv_empty : Inv False St.empty :=
  ⟨rfl, rfl, rfl, by simp [St.empty], ⟨[], .nil, rfl, by simp [St.empty]⟩, by simp [St.empty], by simp [St.empty]⟩

/-- Something that keeps the balance is written. -/
def St.write (st : St) (x : Bs) : St := { st with out := st.out ++ x }
theorem Marks.write {st : St} (h : Marks st) {x : Bs} (hx : ∀ B, Bal B → Bal (B ++ x)) : Marks (st.write x) := by
  obtain ⟨ps, h1, h2, h3⟩ := h
  exact ⟨ps, h1.ext hx, h2, h3⟩
/-- A delimiter first: all is settled. -/
theorem Inv.dl {R : Prop} {st : St} (h : Inv R st) {c : UInt8} (hc : dl c) (hp : plain c) : Inv False (st.write [c]) :=
  ⟨h.hl, h.hk, h.hs, h.ck, h.lay.write (fun _ hB => hB.byte hp), h.sl, fun k s e h1 h2 => (h.rcd k s e h1 h2).imp id (fun h => .inl (h.elim (fun g => g.app _) (fun ⟨_, r⟩ => r.app hc [])))⟩
/-- All settled, and something balanced is written. -/
theorem Inv.bal {st : St} (h : Inv False st) {x : Bs} (hx : ∀ B, Bal B → Bal (B ++ x)) : Inv False (st.write x) :=
  ⟨h.hl, h.hk, h.hs, h.ck, h.lay.write hx, h.sl, fun k s e h1 h2 => (h.rcd k s e h1 h2).imp id (fun h => h.imp (fun g => g.app _) (fun ⟨f, _⟩ => f.elim))⟩
/-- The counts matter for their number alone. -/
theorem Inv.counts {R : Prop} {st : St} (h : Inv R st) {cs : List Nat} (hc : cs.length = st.counts.length) : Inv R { st with counts := cs } :=
  ⟨h.hl, hc.trans h.hk, h.hs, h.ck, h.lay, h.sl, h.rcd⟩
theorem Inv.nexts {R : Prop} {st : St} (h : Inv R st) (n : Nat) : Inv R { st with next := n } := ⟨h.hl, h.hk, h.hs, h.ck, h.lay, h.sl, h.rcd⟩

theorem Marks.more {st : St} (h : Marks st) (hs : ∀ k ∈ st.slots, k < st.starts.length) (p : Nat) (es : List Int) (n : Nat) : Marks { st with starts := st.starts ++ [p], ends := es, next := n } := by
  obtain ⟨ps, h1, h2, h3⟩ := h
  refine ⟨ps, h1, h2, fun j k hk => ?_⟩
  have hlt := hs k (List.mem_of_getElem? hk)
  rw [List.getElem?_append_left hlt]
  exact h3 j k hk

/-- A value is written whole. -/
def St.whole (st : St) (x : Bs) : St :=
  { st with out := st.out ++ x, starts := st.starts ++ [st.out.length], ends := st.ends ++ [((st.out.length + x.length : Nat) : Int)] }
theorem last_of {α : Type} {l : List α} {a x : α} {k : Nat} (h : (l ++ [a])[k]? = some x) : (k < l.length ∧ l[k]? = some x) ∨ (k = l.length ∧ x = a) := by
  by_cases hk : k < l.length
  · rw [List.getElem?_append_left hk] at h; exact .inl ⟨hk, h⟩
  · rw [List.getElem?_append_right (by omega)] at h
    have hlt : k - l.length < [a].length := (List.getElem?_eq_some_iff.1 h).1
    have : k = l.length := by simp at hlt; omega
    subst this
    simp at h
    exact .inr ⟨rfl, h.symm⟩
theorem Inv.whole {st : St} (h : Inv False st) {x : Bs} (hx : Fix x) (hb : ∀ B, Bal B → Bal (B ++ x)) : Inv False (st.whole x) := by
  refine ⟨by simp [St.whole, h.hl], h.hk, h.hs, h.ck, ?_, fun k hk => by have := h.sl k hk; simp [St.whole]; omega, ?_⟩
  · have := (h.lay.write hb).more (st := st.write x) h.sl st.out.length (st.ends ++ [((st.out.length + x.length : Nat) : Int)]) st.next
    exact this
  · intro k s e h1 h2
    rcases last_of h1 with ⟨hk, h1⟩ | ⟨hk, rfl⟩
    · rcases last_of h2 with ⟨_, h2⟩ | ⟨hk2, _⟩
      · exact (h.rcd k s e h1 h2).imp id (fun h => h.imp (fun g => g.app _) (fun ⟨f, _⟩ => f.elim))
      · have := h.hl; omega
    · rcases last_of h2 with ⟨hk2, _⟩ | ⟨_, rfl⟩
      · have := h.hl; omega
      · exact .inr (.inl ⟨st.out, x, [], by simp [St.whole], rfl, rfl, .inl hx⟩)
theorem Inv.scal {st : St} (h : Inv False st) {x : Bs} (h0 : x ≠ []) (hx : ∀ c ∈ x, sc c) : Inv True (st.whole x) := by
  have hb : ∀ B, Bal B → Bal (B ++ x) := fun B hB => hB.scal (fun c hc => (hx c hc).1)
  refine ⟨by simp [St.whole, h.hl], h.hk, h.hs, h.ck, ?_, fun k hk => by have := h.sl k hk; simp [St.whole]; omega, ?_⟩
  · have := (h.lay.write hb).more (st := st.write x) h.sl st.out.length (st.ends ++ [((st.out.length + x.length : Nat) : Int)]) st.next
    exact this
  · intro k s e h1 h2
    rcases last_of h1 with ⟨hk, h1⟩ | ⟨hk, rfl⟩
    · rcases last_of h2 with ⟨_, h2⟩ | ⟨hk2, _⟩
      · exact (h.rcd k s e h1 h2).imp id (fun h => .inl (h.elim (fun g => g.app _) (fun ⟨f, _⟩ => f.elim)))
      · have := h.hl; omega
    · rcases last_of h2 with ⟨hk2, _⟩ | ⟨_, rfl⟩
      · have := h.hl; omega
      · exact .inr (.inr ⟨trivial, st.out, x, rfl, rfl, rfl, h0, hx⟩)

/-- A bracket opens. -/
def St.push (st : St) (o k : UInt8) : St :=
  { st with out := st.out ++ [o], starts := st.starts ++ [st.out.length], ends := st.ends ++ [-1], kinds := st.kinds ++ [k], counts := st.counts ++ [0], slots := st.slots ++ [st.starts.length] }
theorem Inv.push {st : St} (h : Inv False st) {o k : UInt8} (ho : opn o) (hk : cls k) : Inv False (st.push o k) := by
  refine ⟨by simp [St.push, h.hl], by simp [St.push, h.hk], by simp [St.push, h.hs], ?_, ?_, ?_, ?_⟩
  · intro c hc
    rcases List.mem_append.1 hc with hc | hc
    · exact h.ck c hc
    · rw [List.mem_singleton.1 hc]; exact hk
  · obtain ⟨ps, h1, h2, h3⟩ := h.lay
    refine ⟨ps ++ [st.out.length], Lay.step h1 ho .nil, by simp [St.push, h2], fun j c hj => ?_⟩
    rcases last_of hj with ⟨hlt, hj⟩ | ⟨rfl, rfl⟩
    · have hc := h.sl c (List.mem_of_getElem? hj)
      show (st.starts ++ [st.out.length])[c]? = _
      rw [List.getElem?_append_left hc, List.getElem?_append_left (by omega)]
      exact h3 j c hj
    · show (st.starts ++ [st.out.length])[st.starts.length]? = _
      rw [← h2]
      simp
  · intro c hc
    rcases List.mem_append.1 hc with hc | hc
    · have := h.sl c hc; simp [St.push]; omega
    · rw [List.mem_singleton.1 hc]; simp [St.push]
  · intro c s e h1 h2
    rcases last_of h1 with ⟨hk, h1⟩ | ⟨rfl, rfl⟩
    · rcases last_of h2 with ⟨_, h2⟩ | ⟨hk2, _⟩
      · exact (h.rcd c s e h1 h2).imp (fun h => List.mem_append_left _ h) (fun h => h.imp (fun g => g.app _) (fun ⟨f, _⟩ => f.elim))
      · have := h.hl; omega
    · exact .inl (List.mem_append_right _ (List.mem_singleton.2 rfl))

/-- The innermost bracket closes. -/
def St.pop (st : St) (k : UInt8) (slot : Nat) : St :=
  { st with out := st.out ++ [k], ends := st.ends.set slot ((st.out.length + 1 : Nat) : Int), kinds := st.kinds.dropLast, counts := st.counts.dropLast, slots := st.slots.dropLast }
theorem dl_of_cls {c : UInt8} (h : cls c) : dl c := by rcases h with rfl | rfl <;> simp [dl]
theorem Inv.pop {R : Prop} {st : St} (h : Inv R st) {k : UInt8} {slot : Nat} {ks : Bs} {ss : List Nat} (hk : st.kinds = ks ++ [k]) (hs : st.slots = ss ++ [slot]) : Inv False (st.pop k slot) := by
  have hc : cls k := h.ck k (by rw [hk]; simp)
  have hlen := h.hs
  rw [hk, hs] at hlen
  obtain ⟨ps, h1, h2, h3⟩ := h.lay
  obtain ⟨ps', p, rfl⟩ : ∃ ps' p, ps = ps' ++ [p] := by
    have hne : ps ≠ [] := by intro e; subst e; rw [hs] at h2; simp at h2
    exact ⟨ps.dropLast, ps.getLast hne, (List.dropLast_concat_getLast hne).symm⟩
  have hl2 : ps'.length = ss.length := by rw [hs] at h2; simpa using h2
  obtain ⟨A, V, e1, rfl, hf, hlay⟩ := h1.shut hc
  have hp : st.starts[slot]? = some A.length := by
    have := h3 ss.length slot (by rw [hs]; simp)
    rw [this, ← hl2]; simp
  refine ⟨by simp [St.pop, h.hl], by simp [St.pop, h.hk], by simp [St.pop, h.hs], fun c hc => h.ck c (List.dropLast_subset _ hc), ⟨ps', hlay, by simp [St.pop, hs, hl2], ?_⟩, fun c hc => h.sl c (List.dropLast_subset _ hc), ?_⟩
  · intro j c hj
    have hj' : ss[j]? = some c := by simpa [St.pop, hs] using hj
    have hlt : j < ss.length := (List.getElem?_eq_some_iff.1 hj').1
    have := h3 j c (by rw [hs, List.getElem?_append_left hlt]; exact hj')
    rw [List.getElem?_append_left (by omega)] at this
    exact this
  · intro c s e g1 g2
    by_cases hcs : c = slot
    · subst hcs
      have hs' : s = A.length := by
        have g1' : st.starts[c]? = some s := g1
        rw [hp] at g1'; exact (Option.some.inj g1').symm
      have g2' : (st.ends.set c ((st.out.length + 1 : Nat) : Int))[c]? = some e := g2
      rw [List.getElem?_set] at g2'
      have hlt : c < st.ends.length := by rw [← h.hl]; exact (List.getElem?_eq_some_iff.1 hp).1
      simp [hlt] at g2'
      have hV : st.out.length + 1 = A.length + V.length := by have := congrArg List.length e1; simpa using this
      refine .inr (.inl ⟨A, V, [], by simpa [St.pop] using e1, hs', ?_, .inl hf⟩)
      rw [← g2', ← hV]; simp
    · have g2' : (st.ends.set slot ((st.out.length + 1 : Nat) : Int))[c]? = some e := g2
      rw [List.getElem?_set_ne (fun h => hcs h.symm)] at g2'
      rcases h.rcd c s e g1 g2' with hm | hg | ⟨_, hr⟩
      · rw [hs] at hm
        rcases List.mem_append.1 hm with hm | hm
        · exact .inl (by simpa [St.pop, hs] using hm)
        · exact absurd (List.mem_singleton.1 hm) hcs
      · exact .inr (.inl (hg.app _))
      · exact .inr (.inl (hr.app (dl_of_cls hc) []))

/-- Every record is settled, but for a bare root. -/
def Done (bare : Prop) (st : St) : Prop := ∀ (k s : Nat) (e : Int), st.starts[k]? = some s → st.ends[k]? = some e → Good st.out s e ∨ (bare ∧ Raw st.out s e)
theorem Inv.done {R : Prop} {st : St} (h : Inv R st) (h0 : st.kinds = []) : Done R st := by
  intro k s e h1 h2
  rcases h.rcd k s e h1 h2 with hm | hg
  · have : st.slots = [] := List.length_eq_zero_iff.1 (by rw [h.hs, h0]; rfl)
    rw [this] at hm; cases hm
  · exact hg

/-- THE SCAN of a settled record, wherever the text lies. -/
theorem Good.scan {out : Bs} {s : Nat} {e : Int} (h : Good out s e) (pre suf : Bs) : ∃ n : Nat, e = ((s + n : Nat) : Int) ∧ VE 0 ((pre ++ out ++ suf).drop (pre.length + s)) n := by
  obtain ⟨A, V, C, rfl, rfl, he, h⟩ := h
  refine ⟨V.length, he, ?_⟩
  have e2 : (pre ++ (A ++ V ++ C) ++ suf).drop (pre.length + A.length) = V ++ (C ++ suf) := by
    rw [show pre ++ (A ++ V ++ C) ++ suf = (pre ++ A) ++ (V ++ (C ++ suf)) by simp, show pre.length + A.length = (pre ++ A).length by simp, List.drop_left]
  rw [e2]
  rcases h with h | ⟨h1, h2, c, C', rfl, hc⟩
  · exact h _
  · exact VE.scal h1 h2 (.inr ⟨c, C' ++ suf, rfl, hc⟩)
theorem Raw.scan {out : Bs} {s : Nat} {e : Int} (h : Raw out s e) (pre suf : Bs) (hs : suf = [] ∨ ∃ c r, suf = c :: r ∧ dl c) : ∃ n : Nat, e = ((s + n : Nat) : Int) ∧ VE 0 ((pre ++ out ++ suf).drop (pre.length + s)) n := by
  obtain ⟨A, V, rfl, rfl, he, h1, h2⟩ := h
  refine ⟨V.length, he, ?_⟩
  have e2 : (pre ++ (A ++ V) ++ suf).drop (pre.length + A.length) = V ++ suf := by
    rw [show pre ++ (A ++ V) ++ suf = (pre ++ A) ++ (V ++ suf) by simp, show pre.length + A.length = (pre ++ A).length by simp, List.drop_left]
  rw [e2]
  exact VE.scal h1 h2 hs
end Plain
end Go.Proofs.Qxb6001559aDoor
