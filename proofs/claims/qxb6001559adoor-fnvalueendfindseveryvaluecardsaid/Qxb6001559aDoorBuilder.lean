import Derived.Test.Qxb6001559aDoorAny
import Derived.Deep.RegionLaw
import Derived.Deep.RegionLawGrows
import Derived.Deep.Onto
import Derived.Deep.AppendLies
import Derived.Laws.OwnMore
import Derived.Lib.AppendStr
import Derived.Room.AppendFits
/-! THE BUILDER's MEMORY: one block of eight cells, six rows of its own. -/
namespace Go.Proofs.Qxb6001559aDoor
open Go.RowKit Plain

def vb (l : List UInt8) : List Value := l.map fun b => .int .u8 (b.toNat : Int)
def vn (l : List Nat) : List Value := l.map fun (n : Nat) => Value.int .i64 (n : Int)
def vi (l : List Int) : List Value := l.map fun n => .int .i64 n

/-- v' lies where v lay, or in a new block. -/
def Near (w : World) (v v' : Value) : Prop := v'.ownBlock = v.ownBlock ∨ ∀ k, v'.ownBlock = some k → w.heap.size ≤ k
theorem Near.refl (w : World) (v : Value) : Near w v v := .inl rfl
theorem Near.trans {w w' : World} {a b c : Value} (h : Near w a b) (hs : w.heap.size ≤ w'.heap.size) (h2 : Near w' b c) : Near w a c := by
  rcases h2 with h2 | h2
  · rcases h with h | h
    · exact .inl (h2.trans h)
    · exact .inr (fun k hk => h k (h2 ▸ hk))
  · exact .inr (fun k hk => Nat.le_trans hs (h2 k hk))
theorem near_new {w w' : World} {e : TypeId} {size n : Nat} {v v' : Value} {xs : List Value} (h : w'.ownsRow w.heap.size e size v' n xs) : Near w v v' := .inr (fun k hk => (h.lt k hk).1)

section
variable {P : Program} (w : World)
/-- append of a row of cells onto a row of the call's own: where the result lies is told too. -/
theorem run_append2 (base : Nat) (t ty e : TypeId) (i : TypeInfo) (z : Value) (bytes : Nat) (ht : P.underlying t = some (.slice e)) (hi : P.info? e = some i) (hz : i.zero = some z)
    (hsize : i.size = 1) (hby : i.bytes = bytes) (hzs : z.cells.size = 1)
    (v : Value) (n : Nat) (xs : List Value) (hown : w.ownsRow base e 1 v n xs)
    (a : Addr) (m c : Nat) (news : List Value) (hl : news.length = m * 1) (hnews : ∀ j u, news[j]? = some u → w.cell? (a.add j) = some u) (h1 : ∀ u ∈ news, u.oneCell' = true)
    (h63 : n + m ≤ maxLen) (hbytes : (n + m) * bytes ≤ 140737488355328) (hbase : base ≤ w.heap.size) :
    ∃ v' w', (Builtin.append_ #[t, t] ty #[v, .slice (some a) m c]).run P w = .ok v' w' ∧ w'.ownsRow base e 1 v' (n + m) (xs ++ news) ∧ w.grownBy w' v.ownBlock ∧ Near w v v' := by
  have hw := hown
  rcases hown.2 with ⟨rfl, rfl⟩ | ⟨g, cap, cur, rfl, hbg, hg, hnc, hcm, hcs, htake⟩
  · have hx : xs = [] := List.eq_nil_of_length_eq_zero (by simpa using hown.1)
    subst hx
    obtain ⟨v', w', hr, h2, h3, _⟩ := run_append_own (P := P) w w.heap.size t ty e i z 1 bytes ht hi hz hsize hby hzs (by decide) (.slice none 0 0) 0 [] (World.ownsRow_nil w _ e 1) a m c news hl hnews h1 h63 hbytes (Nat.le_refl _)
    exact ⟨v', w', hr, h2.mono hbase, h3, near_new h2⟩
  · by_cases hroom : n + m ≤ cap
    · obtain ⟨w', hr, h2, h3⟩ := run_append_fits (P := P) w base t ty e i 1 ht hi hsize g n cap xs hw a m c news hl hnews h1 hroom
      exact ⟨_, w', hr, h2, h3, .inl rfl⟩
    · obtain ⟨v', w', hr, h2, h3⟩ := run_append_arg_grows (P := P) w t ty e i z 1 bytes ht hi hz hsize hby hzs (by decide) ⟨g, 0, none⟩ n cap xs hw.1 (hw.cells rfl) a m c news hl hnews (by omega) h63 hbytes
      exact ⟨v', w', hr, h2.mono hbase, h3.but _, near_new h2⟩

/-- append of a string's bytes. -/
theorem run_append2s (base : Nat) (t u ty e : TypeId) (i : TypeInfo) (ht : P.underlying t = some (.slice e)) (hu : P.underlying u = some .string) (hi : P.info? e = some i) (hz : i.zero = some (.int .u8 0))
    (hsize : i.size = 1) (hby : i.bytes = 1)
    (v : Value) (n : Nat) (xs : List Value) (hown : w.ownsRow base e 1 v n xs) (s : ByteArray) (hs : 0 < s.size)
    (h63 : n + s.size ≤ maxLen) (hbytes : n + s.size ≤ 140737488355328) (hbase : base ≤ w.heap.size) :
    ∃ v' w', (Builtin.append_ #[t, u] ty #[v, .string s]).run P w = .ok v' w' ∧ w'.ownsRow base e 1 v' (n + s.size) (xs ++ Lib.strCells s) ∧ w.grownBy w' v.ownBlock ∧ Near w v v' := by
  have hw := hown
  rcases hown.2 with ⟨rfl, rfl⟩ | ⟨g, cap, cur, rfl, hbg, hg, hnc, hcm, hcs, htake⟩
  · have hx : xs = [] := List.eq_nil_of_length_eq_zero (by simpa using hown.1)
    subst hx
    obtain ⟨v', w', hr, h2, h3, _⟩ := Lib.run_append_own_string (P := P) w w.heap.size t u ty e i ht hu hi hz hsize hby (.slice none 0 0) 0 [] (World.ownsRow_nil w _ e 1) s h63 hbytes (Nat.le_refl _)
    exact ⟨v', w', hr, h2.mono hbase, h3, near_new h2⟩
  · by_cases hroom : n + s.size ≤ cap
    · obtain ⟨w', hr, h2, h3⟩ := Lib.run_append_fits_string (P := P) w base t u ty e i ht hu hi hsize (some ⟨g, 0, none⟩) n cap xs hw s (by omega) hroom
      exact ⟨_, w', hr, h2, h3, .inl rfl⟩
    · obtain ⟨v', w', hr, h2, h3, _⟩ := Lib.run_append_own_string (P := P) w base t u ty e i ht hu hi hz hsize hby _ n xs hw s h63 hbytes hbase
      have hr2 := Lib.run_append_grow_string (P := P) w t u ty e i (.int .u8 0) ht hu hi hz ⟨g, 0, none⟩ n cap xs (by rw [hsize]; exact hw.1) (hw.cells rfl) s (by omega) (by simp only [maxLen] at h63; omega) (by rw [hby]; exact growslice_fits (by omega) (by omega))
      rw [hr] at hr2
      injection hr2 with e1 _
      exact ⟨v', w', hr, h2, h3, .inr (fun k hk => by rw [e1] at hk; simp [Value.ownBlock] at hk; omega)⟩
end

/-- append as one step of a region that draws. -/
theorem step_append2 {P : Program} {ops : Array Oper} {o : Oper} {a : Act} {w : World} {K : Act → World → Prop} {Q : Exit → Act → World → Prop} {E : Prop}
    (hg : o.guard = none) (s x : Operand) (t : TypeId) (hop : o.op = Op.call { callee := Callee.builtin Builtin.append, args := #[s, x], argTypes := #[t, t] })
    (base : Nat) (e : TypeId) (i : TypeInfo) (z : Value) (bytes : Nat) (h1 : P.underlying t = some (.slice e)) (h2 : P.info? e = some i) (h3 : i.zero = some z) (h4 : i.size = 1) (h5 : i.bytes = bytes) (h6 : z.cells.size = 1)
    (v : Value) (n : Nat) (xs : List Value) (hs : a.eval s = v) (hown : w.ownsRow base e 1 v n xs)
    (ad : Addr) (m c : Nat) (news : List Value) (hx : a.eval x = .slice (some ad) m c) (hn : news.length = m * 1) (hc : ∀ j u, news[j]? = some u → w.cell? (ad.add j) = some u) (h1c : ∀ u ∈ news, u.oneCell' = true)
    (b1 : n + m ≤ maxLen) (b2 : (n + m) * bytes ≤ 140737488355328) (hbase : base ≤ w.heap.size)
    (hK : ∀ v' w', w'.ownsRow base e 1 v' (n + m) (xs ++ news) → w.grownBy w' v.ownBlock → Near w v v' → K (a.put o.dst v') w') :
    if Region.wanted o (yielded ops a.tmps) = true then Oper.wp P o a w K Q else E := by
  have hw : Region.wanted o (yielded ops a.tmps) = true := by simp [Region.wanted, hg]
  rw [if_pos hw]
  obtain ⟨v', w', hrun, r1, r2, r3⟩ := run_append2 (P := P) w base t o.type e i z bytes h1 h2 h3 h4 h5 h6 v n xs hown ad m c news hn hc h1c b1 b2 hbase
  unfold Oper.wp
  simp [execOp, hop, resolve, invoke, builtin, hs, hx, hrun, Result.andThen]
  exact hK v' w' r1 r2 r3
theorem step_append2s {P : Program} {ops : Array Oper} {o : Oper} {a : Act} {w : World} {K : Act → World → Prop} {Q : Exit → Act → World → Prop} {E : Prop}
    (hg : o.guard = none) (s x : Operand) (t u : TypeId) (hop : o.op = Op.call { callee := Callee.builtin Builtin.append, args := #[s, x], argTypes := #[t, u] })
    (base : Nat) (e : TypeId) (i : TypeInfo) (h1 : P.underlying t = some (.slice e)) (hu : P.underlying u = some .string) (h2 : P.info? e = some i) (h3 : i.zero = some (.int .u8 0)) (h4 : i.size = 1) (h5 : i.bytes = 1)
    (v : Value) (n : Nat) (xs : List Value) (hs : a.eval s = v) (hown : w.ownsRow base e 1 v n xs)
    (str : ByteArray) (hx : a.eval x = .string str) (h0 : 0 < str.size)
    (b1 : n + str.size ≤ maxLen) (b2 : n + str.size ≤ 140737488355328) (hbase : base ≤ w.heap.size)
    (hK : ∀ v' w', w'.ownsRow base e 1 v' (n + str.size) (xs ++ Lib.strCells str) → w.grownBy w' v.ownBlock → Near w v v' → K (a.put o.dst v') w') :
    if Region.wanted o (yielded ops a.tmps) = true then Oper.wp P o a w K Q else E := by
  have hw : Region.wanted o (yielded ops a.tmps) = true := by simp [Region.wanted, hg]
  rw [if_pos hw]
  obtain ⟨v', w', hrun, r1, r2, r3⟩ := run_append2s (P := P) w base t u o.type e i h1 hu h2 h3 h4 h5 v n xs hown str h0 b1 b2 hbase
  unfold Oper.wp
  simp [execOp, hop, resolve, invoke, builtin, hs, hx, hrun, Result.andThen]
  exact hK v' w' r1 r2 r3
/-- append as one step of a straight list. -/
theorem wpList_append2 {P : Program} {w : World} {ops : Array Oper} {rest : List Oper} {o : Oper} {a : Act} {Q : Exit → Act → World → Prop} (hgd : o.guard = none) (s x : Operand) (t : TypeId)
    (hop : o.op = .call { callee := .builtin .append, args := #[s, x], argTypes := #[t, t] })
    (base : Nat) (e : TypeId) (i : TypeInfo) (z : Value) (bytes : Nat) (h1 : P.underlying t = some (.slice e)) (h2 : P.info? e = some i) (h3 : i.zero = some z) (h4 : i.size = 1) (h5 : i.bytes = bytes) (h6 : z.cells.size = 1)
    (v : Value) (n : Nat) (xs : List Value) (hs : a.eval s = v) (hown : w.ownsRow base e 1 v n xs)
    (ad : Addr) (m c : Nat) (news : List Value) (hx : a.eval x = .slice (some ad) m c) (hn : news.length = m * 1) (hc : ∀ j u, news[j]? = some u → w.cell? (ad.add j) = some u) (h1c : ∀ u ∈ news, u.oneCell' = true)
    (b1 : n + m ≤ maxLen) (b2 : (n + m) * bytes ≤ 140737488355328) (hbase : base ≤ w.heap.size)
    (h : ∀ v' w', w'.ownsRow base e 1 v' (n + m) (xs ++ news) → w.grownBy w' v.ownBlock → Near w v v' → wpList P ops Q rest (a.put o.dst v') w') : wpList P ops Q (o :: rest) a w := by
  refine wpList_plain hgd fun K hK => ?_
  obtain ⟨v', w', hrun, r1, r2, r3⟩ := run_append2 (P := P) w base t o.type e i z bytes h1 h2 h3 h4 h5 h6 v n xs hown ad m c news hn hc h1c b1 b2 hbase
  unfold Oper.wp
  simp [execOp, hop, resolve, invoke, builtin, hs, hx, hrun, Result.andThen]
  exact hK _ _ (h v' w' r1 r2 r3)

/-- What row i holds. -/
def X (st : St) : Nat → List Value
  | 0 => vb st.out
  | 1 => vn st.starts
  | 2 => vi st.ends
  | 3 => vb st.kinds
  | 4 => vn st.counts
  | _ => vn st.slots
def T : Nat → TypeId
  | 0 => 5
  | 3 => 5
  | _ => 3

/-- The builder lies at block B, in state st; R: the six slices. -/
structure JB (w : World) (B : Nat) (R : Nat → Value) (sv : Value) (st : St) : Prop where
  lt : B < w.heap.size
  cell : ∀ i, i < 6 → w.cell? ⟨B, i, none⟩ = some (R i)
  c6 : w.cell? ⟨B, 6, none⟩ = some sv
  c7 : w.cell? ⟨B, 7, none⟩ = some (.int .i64 (st.next : Int))
  fr : ∀ i, w.frozen? ⟨B, i, none⟩ = false
  row : ∀ i, i < 6 → w.ownsRow (B + 1) (T i) 1 (R i) (X st i).length (X st i)
  dis : ∀ i j, i < 6 → j < 6 → i ≠ j → (R i).ownBlock = none ∨ (R i).ownBlock ≠ (R j).ownBlock

theorem JB.off {w : World} {B : Nat} {R : Nat → Value} {sv : Value} {st : St} (h : JB w B R sv st) {i : Nat} (hi : i < 6) : some B ≠ (R i).ownBlock := by
  intro e
  have := ((h.row i hi).lt B e.symm).1
  omega
/-- The block's own cells, where row i alone has turned. -/
theorem JB.still {w w' : World} {B : Nat} {R : Nat → Value} {sv : Value} {st : St} (h : JB w B R sv st) {i : Nat} (hi : i < 6) (hg : w.grownBy w' (R i).ownBlock) :
    (∀ j, w'.cell? ⟨B, j, none⟩ = w.cell? ⟨B, j, none⟩) ∧ (∀ j, w'.frozen? ⟨B, j, none⟩ = w.frozen? ⟨B, j, none⟩) ∧ B < w'.heap.size :=
  ⟨fun j => hg.cell_far ⟨B, j, none⟩ h.lt (h.off hi), fun j => hg.frozen_far ⟨B, j, none⟩ h.lt (h.off hi), Nat.lt_of_lt_of_le h.lt hg.size⟩
theorem grownBy_setCell (w : World) (p : Addr) (v : Value) : w.grownBy (w.setCell p v) (some p.block) :=
  ⟨rfl, rfl, rfl, by simp, fun k _ hk => heap_setCell_other w p k v (fun e => hk (by simp [e]))⟩

/-- Row i is turned, and its slice stored. -/
theorem JB.store {w w' : World} {B : Nat} {R : Nat → Value} {sv : Value} {st st' : St} (h : JB w B R sv st) {i : Nat} (hi : i < 6) {v' : Value} (hg : w.grownBy w' (R i).ownBlock) (hn : Near w (R i) v')
    (ho : w'.ownsRow (B + 1) (T i) 1 v' (X st' i).length (X st' i)) (hX : ∀ j, j < 6 → j ≠ i → X st' j = X st j) (hx : st'.next = st.next) :
    JB (w'.setCell ⟨B, i, none⟩ v') B (fun j => if j = i then v' else R j) sv st' := by
  obtain ⟨hc, hf, hlt⟩ := h.still hi hg
  have hset := grownBy_setCell w' ⟨B, i, none⟩ v'
  have offv : some B ≠ v'.ownBlock := by
    intro e
    have := (ho.lt B e.symm).1
    omega
  refine ⟨by simpa using hlt, ?_, ?_, ?_, ?_, ?_, ?_⟩
  · intro j hj
    by_cases e : j = i
    · subst e
      rw [if_pos rfl]
      exact World.cell?_setCell_same _ _ _ (by rw [hc, h.cell j hj])
    · rw [if_neg e, World.cell?_setCell_other _ _ _ _ (by simp <;> omega), hc, h.cell j hj]
  · rw [World.cell?_setCell_other _ _ _ _ (by simp <;> omega), hc, h.c6]
  · rw [World.cell?_setCell_other _ _ _ _ (by simp <;> omega), hc, h.c7, hx]
  · intro j
    rw [World.frozen?_setCell, hf, h.fr]
  · intro j hj
    by_cases e : j = i
    · subst e
      simp only [if_true]
      exact ho.kept hset (.inr (fun e => offv e.symm))
    · simp only [if_neg e]
      rw [hX j hj e]
      have h1 := (h.row j hj).kept hg (h.dis j i hj hi e)
      exact h1.kept hset (.inr (fun e => h.off hj e.symm))
  · intro j k hj hk hne
    have near : ∀ m, m < 6 → m ≠ i → (R m).ownBlock = none ∨ (R m).ownBlock ≠ v'.ownBlock := by
      intro m hm hmi
      rcases hn with hn | hn
      · rw [hn]; exact h.dis m i hm hi hmi
      · cases hb : (R m).ownBlock with
        | none => exact .inl rfl
        | some b =>
          refine .inr (fun e => ?_)
          have h1 := hn b e.symm
          have h2 := ((h.row m hm).lt b hb).2
          omega
    by_cases ej : j = i
    · subst ej
      have hk' : k ≠ j := fun e => hne e.symm
      simp only [if_true, if_neg hk']
      rcases near k hk hk' with h1 | h1
      · cases hv : v'.ownBlock with
        | none => exact .inl rfl
        | some b => exact .inr (by rw [h1]; simp)
      · cases hv : v'.ownBlock with
        | none => exact .inl rfl
        | some b => exact .inr (by rw [← hv]; exact fun e => h1 e.symm)
    · by_cases ek : k = i
      · subst ek
        simp only [if_true, if_neg ej]
        exact near j hj ej
      · simp only [if_neg ej, if_neg ek]
        exact h.dis j k hj hk hne
/-- What does not touch the builder leaves it as it is. -/
theorem JB.later {w w' : World} {B : Nat} {R : Nat → Value} {sv : Value} {st : St} (h : JB w B R sv st) (hg : ∀ k, k < w.heap.size → w'.heap[k]? = w.heap[k]?) (hs : w.heap.size ≤ w'.heap.size) : JB w' B R sv st := by
  have hb := hg B h.lt
  refine ⟨Nat.lt_of_lt_of_le h.lt hs, fun i hi => (World.cell?_of_block (a := ⟨B, i, none⟩) hb).trans (h.cell i hi), (World.cell?_of_block (a := ⟨B, 6, none⟩) hb).trans h.c6, (World.cell?_of_block (a := ⟨B, 7, none⟩) hb).trans h.c7, fun i => (World.frozen?_of_block (a := ⟨B, i, none⟩) hb).trans (h.fr i), fun i hi => ?_, h.dis⟩
  refine ⟨(h.row i hi).1, ?_⟩
  rcases (h.row i hi).2 with h1 | ⟨g, cap, cur, e, hb, hgg, rest⟩
  · exact .inl h1
  · exact .inr ⟨g, cap, cur, e, hb, (hg g (Array.getElem?_eq_some_iff.1 hgg).1).trans hgg, rest⟩
/-- The form of a slice. -/
theorem JB.form {w : World} {B : Nat} {R : Nat → Value} {sv : Value} {st : St} (h : JB w B R sv st) {i : Nat} (hi : i < 6) : ∃ ao c, R i = .slice ao (X st i).length c := by
  rcases (h.row i hi).2 with ⟨h1, h2⟩ | ⟨g, cap, cur, e, _⟩
  · exact ⟨none, 0, by rw [h1, h2]⟩
  · exact ⟨_, cap, e⟩
end Go.Proofs.Qxb6001559aDoor
