import Derived.Test.Qxb6001559aDoorClose
/-! STEPS of the builder that value and element share. -/
namespace Go.Proofs.Qxb6001559aDoor
open Go.RowKit Plain

/-- As JB.kept, JB.appended, where nothing is drawn. -/
theorem JB.kept1 {w w1 : World} {B : Nat} {R : Nat → Value} {sv : Value} {st : St} (h : JB w B R sv st) {i : Nat} (hi : i < 6) {v : Value} (e : R i = v) {o : Obj} (hg : (w.alloc o).grownBy w1 v.ownBlock) :
    (∀ j, w1.cell? ⟨B, j, none⟩ = w.cell? ⟨B, j, none⟩) ∧ (∀ j, w1.frozen? ⟨B, j, none⟩ = false) :=
  h.kept (w1 := w1) hi e (o := o) ⟨hg.os, hg.tape, hg.output, hg.size, hg.block⟩
theorem JB.appended1 {w w1 : World} {B : Nat} {R : Nat → Value} {sv : Value} {st st' : St} (h : JB w B R sv st) {i : Nat} (hi : i < 6) {v v' : Value} (e : R i = v) {o : Obj} {n : Nat} {xs : List Value}
    (r1 : w1.ownsRow (B + 1) (T i) 1 v' n xs) (r2 : (w.alloc o).grownBy w1 v.ownBlock) (r3 : Near (w.alloc o) v v') (hx : X st' i = xs) (hX : ∀ j, j < 6 → j ≠ i → X st' j = X st j) (hn : st'.next = st.next) :
    (∃ R', JB (w1.setCell ⟨B, i, none⟩ v') B R' sv st') ∧ Below B w (w1.setCell ⟨B, i, none⟩ v') :=
  h.appended hi e (o := o) r1 ⟨r2.os, r2.tape, r2.output, r2.size, r2.block⟩ r3 hx hX hn
/-- The rows beside row i. -/
theorem X_but (i : Nat) {st st' : St} (h0 : i ≠ 0 → st'.out = st.out) (h1 : i ≠ 1 → st'.starts = st.starts) (h2 : i ≠ 2 → st'.ends = st.ends) (h3 : i ≠ 3 → st'.kinds = st.kinds) (h4 : i ≠ 4 → st'.counts = st.counts) (h5 : i ≠ 5 → st'.slots = st.slots) :
    ∀ j, j < 6 → j ≠ i → X st' j = X st j := fun j hj hne => match j, hj, hne with
  | 0, _, h => by show vb _ = vb _; rw [h0 (fun e => h e.symm)]
  | 1, _, h => by show vn _ = vn _; rw [h1 (fun e => h e.symm)]
  | 2, _, h => by show vi _ = vi _; rw [h2 (fun e => h e.symm)]
  | 3, _, h => by show vb _ = vb _; rw [h3 (fun e => h e.symm)]
  | 4, _, h => by show vn _ = vn _; rw [h4 (fun e => h e.symm)]
  | 5, _, h => by show vn _ = vn _; rw [h5 (fun e => h e.symm)]
  | n + 6, h, _ => by omega

/-- A value is begun. -/
def begun (st : St) : St := { st with starts := st.starts ++ [st.out.length], ends := st.ends ++ [-1] }
theorem vn_one (a : List Nat) : ∀ u ∈ vn a, u.oneCell' = true := by
  intro u hu; simp [vn] at hu; obtain ⟨b, _, rfl⟩ := hu; rfl
theorem vi_one (a : List Int) : ∀ u ∈ vi a, u.oneCell' = true := by
  intro u hu; simp [vi] at hu; obtain ⟨b, _, rfl⟩ := hu; rfl

/-- Every row is at most N long. -/
structure Sz (N : Nat) (st : St) : Prop where
  o : st.out.length ≤ N
  s : st.starts.length ≤ N
  e : st.ends.length ≤ N
  k : st.kinds.length ≤ N
  c : st.counts.length ≤ N
  l : st.slots.length ≤ N
  b : ∀ c ∈ st.counts, c ≤ N

/-- A callee has written onto row 0, and its slice is stored. -/
theorem JB.wrote {w w' : World} {B : Nat} {R : Nat → Value} {sv : Value} {st : St} (h : JB w B R sv st) {v0 v : Value} (e : R 0 = v0) {l : List UInt8} (hW : Wrote w (B + 1) v0 w' v l) :
    (∃ R', JB (w'.setCell ⟨B, 0, none⟩ v) B R' sv { st with out := l }) ∧ Below B w (w'.setCell ⟨B, 0, none⟩ v) := by
  subst e
  refine ⟨⟨_, h.store (i := 0) (by omega) hW.grown hW.near (by show w'.ownsRow _ 5 1 v (vb l).length (vb l); rw [vb_len]; exact hW.own) (X_but 0 (fun h => absurd rfl h) (fun _ => rfl) (fun _ => rfl) (fun _ => rfl) (fun _ => rfl) (fun _ => rfl)) rfl⟩, ?_⟩
  have hlt := h.lt
  exact ((Below.refl B w).grown hW.grown (by omega) (fun k hk => by have := ((h.row 0 (by omega)).lt k hk).1; omega)).setCell (Nat.le_refl _) _
theorem JB.wroteK {w w' : World} {B : Nat} {R : Nat → Value} {sv : Value} {st : St} (h : JB w B R sv st) {v0 v : Value} (e : R 0 = v0) {l : List UInt8} (hW : Wrote w (B + 1) v0 w' v l) :
    (∀ j, w'.cell? ⟨B, j, none⟩ = w.cell? ⟨B, j, none⟩) ∧ (∀ j, w'.frozen? ⟨B, j, none⟩ = false) ∧ ∃ a n c, v = .slice a n c := by
  subst e
  obtain ⟨h1, h2, _⟩ := h.still (i := 0) (by omega) hW.grown
  obtain ⟨a, c, e⟩ := owns_form hW.own
  exact ⟨h1, fun j => (h2 j).trans (h.fr j), a, _, c, e⟩

theorem enter9 : ∀ vs w, (callFunc 9 vs).run Tryd.prog w = .ok (.enter 9 vs) w := fun vs w => by kernel_rfl
theorem enter12 : ∀ vs w, (callFunc 12 vs).run Tryd.prog w = .ok (.enter 12 vs) w := fun vs w => by kernel_rfl
theorem enter15 : ∀ vs w, (callFunc 15 vs).run Tryd.prog w = .ok (.enter 15 vs) w := fun vs w => by kernel_rfl
theorem enter16 : ∀ vs w, (callFunc 16 vs).run Tryd.prog w = .ok (.enter 16 vs) w := fun vs w => by kernel_rfl
theorem enter17 : ∀ vs w, (callFunc 17 vs).run Tryd.prog w = .ok (.enter 17 vs) w := fun vs w => by kernel_rfl
theorem enter18 : ∀ vs w, (callFunc 18 vs).run Tryd.prog w = .ok (.enter 18 vs) w := fun vs w => by kernel_rfl
/-- A call of a Go function as one step of a region that draws. -/
theorem step_call {P : Program} {ops : Array Oper} {o : Oper} {a : Act} {w : World} {K : Act → World → Prop} {Q : Exit → Act → World → Prop} {E : Prop}
    (hg : o.guard = none) (f : FuncId) (hcf : ∀ vs w, (callFunc f vs).run P w = .ok (.enter f vs) w) (xs : Array Operand) (ats : Array TypeId) (hop : o.op = .call { callee := .value (.func f), args := xs, argTypes := ats })
    (vals : Array Value) (hv : xs.map a.eval = vals) {S : Value → World → Prop} (hc : Calls P f vals w fun e w' => ∃ v, e = .returned v ∧ S v w')
    (hK : ∀ v w', S v w' → K (a.put o.dst v) w') :
    if Region.wanted o (yielded ops a.tmps) = true then Oper.wp P o a w K Q else E := by
  have hw : Region.wanted o (yielded ops a.tmps) = true := by simp [Region.wanted, hg]
  rw [if_pos hw]
  unfold Oper.wp
  have e1 : execOp a.eval o = callFunc f vals := by
    obtain ⟨dst, op, type, pos, after, guard⟩ := o
    subst hop
    rw [execOp_call_go, hv]
    simp
  rw [e1, hcf]
  refine (hc.mono ?_)
  rintro e w' ⟨v, rfl, hs⟩
  exact hK v w' hs
theorem shr3 (c : UInt8) : ((c.toNat : Int) / (8 : Int)) = ((c >>> 3).toNat : Int) := all_u8 (P := fun c => ((c.toNat : Int) / (8 : Int)) = ((c >>> 3).toNat : Int)) (by decide +kernel) c
theorem u8_eq {a b : UInt8} (h : (a.toNat : Int) = (b.toNat : Int)) : a = b := UInt8.toNat_inj.1 (by omega)
theorem strCells_vb (s : ByteArray) : Lib.strCells s = vb s.data.toList := by
  rfl
theorem wrote_str {w w1 : World} {base : Nat} {v v1 : Value} {out : List UInt8} {s : ByteArray} (r1 : w1.ownsRow base 5 1 v1 (out.length + s.size) (vb out ++ Lib.strCells s)) (r2 : w.grownBy w1 v.ownBlock) (r3 : Near w v v1) : Wrote w base v w1 v1 (out ++ s.data.toList) := by
  refine ⟨?_, r2, r3⟩
  rw [vb_app, List.length_append, ← strCells_vb, show s.data.toList.length = s.size by rw [Array.length_toList]; rfl]
  exact r1
end Go.Proofs.Qxb6001559aDoor
