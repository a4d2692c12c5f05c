import Derived.Test.Qxb6001559aDoorTake
import Derived.Deep.DeepCutAuto
/-! THE WALK of closeTop. -/
namespace Go.Proofs.Qxb6001559aDoor
open Go.RowKit Plain

theorem Tryd.info3 : (Tryd.prog.info? 3).map (fun i => (i.zero, i.size, i.bytes)) = some (some (.int .i64 0), 1, 8) := by kernel_rfl
/-- A row that is not empty, written out. -/
theorem row_form {w : World} {base : Nat} {e : TypeId} {v : Value} {n : Nat} {xs : List Value} (h : w.ownsRow base e 1 v n xs) (hn : 0 < n) :
    ∃ g cap, v = .slice (some ⟨g, 0, none⟩) n cap ∧ n ≤ cap ∧ base ≤ g ∧ g < w.heap.size ∧ (∀ j u, xs[j]? = some u → w.cell? ⟨g, j, none⟩ = some u) ∧ (∀ j, w.frozen? ⟨g, j, none⟩ = false) := by
  rcases h.2 with ⟨_, h0⟩ | ⟨g, cap, cur, rfl, hb, hg, hnc, _⟩
  · omega
  · refine ⟨g, cap, rfl, hnc, hb, (Array.getElem?_eq_some_iff.1 hg).1, fun j u hj => ?_, fun j => h.frozenAt j⟩
    have := h.cells (g := g) rfl j u hj
    rwa [WideShapes.add_plain, Nat.zero_add] at this

theorem owns_form {w : World} {base : Nat} {e : TypeId} {v : Value} {n : Nat} {xs : List Value} (h : w.ownsRow base e 1 v n xs) : ∃ a c, v = .slice a n c := by
  rcases h.2 with ⟨rfl, rfl⟩ | ⟨g, cap, cur, rfl, _⟩
  · exact ⟨none, 0, rfl⟩
  · exact ⟨_, cap, rfl⟩
/-- The builder in the world of an append to row i: a new block, a draw. -/
theorem JB.fresh {w : World} {B : Nat} {R : Nat → Value} {sv : Value} {st : St} (h : JB w B R sv st) (o : Obj) : JB (w.alloc o).drew B R sv st :=
  h.later (fun k hk => (World.grownBy_alloc w o none).block k hk (by simp)) (by simp)
theorem JB.kept {w w1 : World} {B : Nat} {R : Nat → Value} {sv : Value} {st : St} (h : JB w B R sv st) {i : Nat} (hi : i < 6) {v : Value} (e : R i = v) {o : Obj} (hg : (w.alloc o).drew.grownBy w1 v.ownBlock) :
    (∀ j, w1.cell? ⟨B, j, none⟩ = w.cell? ⟨B, j, none⟩) ∧ (∀ j, w1.frozen? ⟨B, j, none⟩ = false) := by
  subst e
  have h2 := h.fresh o
  obtain ⟨h3, h4, _⟩ := h2.still hi hg
  exact ⟨fun j => (h3 j).trans (by rw [World.cell?_drew, World.cell?_alloc_old _ _ _ (Nat.ne_of_lt h.lt)]), fun j => (h4 j).trans (h2.fr j)⟩

theorem ownsRow_len {w : World} {base : Nat} {e : TypeId} {v : Value} {n : Nat} {xs : List Value} (h : w.ownsRow base e 1 v n xs) : w.ownsRow base e 1 v xs.length xs := by
  have : xs.length = n := by simpa using h.1
  rw [this]; exact h
/-- Row i has grown by an append, and its slice is stored. -/
theorem JB.appended {w w1 : World} {B : Nat} {R : Nat → Value} {sv : Value} {st st' : St} (h : JB w B R sv st) {i : Nat} (hi : i < 6) {v v' : Value} (e : R i = v) {o : Obj} {n : Nat} {xs : List Value}
    (r1 : w1.ownsRow (B + 1) (T i) 1 v' n xs) (r2 : (w.alloc o).drew.grownBy w1 v.ownBlock) (r3 : Near (w.alloc o).drew v v') (hx : X st' i = xs) (hX : ∀ j, j < 6 → j ≠ i → X st' j = X st j) (hn : st'.next = st.next) :
    (∃ R', JB (w1.setCell ⟨B, i, none⟩ v') B R' sv st') ∧ Below B w (w1.setCell ⟨B, i, none⟩ v') := by
  subst e
  refine ⟨⟨_, (h.fresh o).store hi r2 r3 (by rw [hx]; exact ownsRow_len r1) hX hn⟩, ?_⟩
  have hlt := h.lt
  have h1 : Below B w (w.alloc o).drew := ((Below.refl B w).alloc (by omega) o).drew
  exact (h1.grown r2 (by simp; omega) (fun k hk => by have := ((h.row i hi).lt k hk).1; omega)).setCell (Nat.le_refl _) _

/-- A cell of row i is turned. -/
theorem JB.setAt {w : World} {B : Nat} {R : Nat → Value} {sv : Value} {st st' : St} (h : JB w B R sv st) {i : Nat} (hi : i < 6) {g n cap : Nat} (e : R i = .slice (some ⟨g, 0, none⟩) n cap) (j : Nat) (u : Value)
    (hx : X st' i = (X st i).set j u) (hX : ∀ k, k < 6 → k ≠ i → X st' k = X st k) (hn : st'.next = st.next) : JB (w.setCell ⟨g, j, none⟩ u) B R sv st' ∧ Below B w (w.setCell ⟨g, j, none⟩ u) := by
  have hr := h.row i hi
  rw [e] at hr
  have hln : (X st i).length = n := by
    rcases hr.2 with ⟨h', _⟩ | ⟨_, _, _, h', _⟩
    · simp at h'
    · injection h' with _ h2 _; exact h2.symm
  rw [hln] at hr
  have hgB := (hr.lt g rfl).1
  obtain ⟨h1, h2⟩ := hr.stored j u
  have hg : w.grownBy (w.setCell ⟨g, j, none⟩ u) (R i).ownBlock := by rw [e]; exact h2
  obtain ⟨hc, hf, hlt⟩ := h.still hi hg
  refine ⟨⟨hlt, fun k hk => (hc k).trans (h.cell k hk), (hc 6).trans h.c6, by rw [hn]; exact (hc 7).trans h.c7, fun k => (hf k).trans (h.fr k), fun k hk => ?_, h.dis⟩, (Below.refl _ _).setCell (by show B ≤ g; omega) _⟩
  by_cases ek : k = i
  · subst ek
    rw [hx, e, List.length_set, hln]
    exact h1
  · rw [hX k hk ek]
    exact (h.row k hk).kept hg (h.dis k i hk hi ek)

/-- Row i loses its last. -/
theorem JB.cut {w : World} {B : Nat} {R : Nat → Value} {sv : Value} {st st' : St} (h : JB w B R sv st) {i : Nat} (hi : i < 6) {g k cap : Nat} (e : R i = .slice (some ⟨g, 0, none⟩) (k + 1) cap)
    (hx : X st' i = (X st i).dropLast) (hX : ∀ j, j < 6 → j ≠ i → X st' j = X st j) (hn : st'.next = st.next) :
    JB (w.setCell ⟨B, i, none⟩ (.slice (some ⟨g, 0, none⟩) k cap)) B (fun j => if j = i then .slice (some ⟨g, 0, none⟩) k cap else R j) sv st' ∧ Below B w (w.setCell ⟨B, i, none⟩ (.slice (some ⟨g, 0, none⟩) k cap)) := by
  have hr := h.row i hi
  rw [e] at hr
  refine ⟨h.store hi (World.grownBy.refl _ _) (.inl (by rw [e]; rfl)) ?_ hX hn, (Below.refl B w).setCell (by simp) _⟩
  rcases hr.2 with ⟨h', _⟩ | ⟨g', cap', cur, h', hb, hg, hnc, hcm, hcs, htake⟩
  · simp at h'
  · injection h' with e1 e2 e3
    injection (Option.some.inj e1) with e4
    subst e4; subst e3
    have hln : (X st i).length = k + 1 := e2.symm
    rw [hln] at htake
    have hl' : (X st' i).length = k := by rw [hx, List.length_dropLast, hln]; rfl
    refine ⟨by rw [hl']; omega, .inr ⟨g, cap, cur, by rw [hl'], hb, hg, by omega, hcm, hcs, ?_⟩⟩
    rw [hl', hx, ← htake, Nat.mul_one, Nat.mul_one, List.dropLast_eq_take, List.take_take, List.length_take]
    have hsz : k + 1 ≤ cur.toList.length := by rw [Array.length_toList, hcs]; omega
    congr 1
    omega

theorem cut_run (t : TypeId) (ht : t = 22 ∨ t = 27) (g k c : Nat) (hc : k + 1 ≤ c) (w : World) : (Instr.slice t (.slice (some ⟨g, 0, none⟩) (k + 1) c) none (some (.int .i64 (k : Int))) none).run Tryd.prog w = .ok (.slice (some ⟨g, 0, none⟩) k c) w := by
  have h0 : ∀ a : Addr, a.add 0 = a := fun a => by unfold Addr.add; rw [if_pos rfl]
  rcases ht with rfl | rfl
  · rw [run_slice_h (P := Tryd.prog) w 22 (some ⟨g, 0, none⟩) (k + 1) c (by kernel_rfl) .i64 (k : Int) (by omega) (by omega)]
    have hz : ∀ wx, (sizeOf (Tryd.prog.elem 22)).run Tryd.prog wx = .ok 1 wx := fun wx => by kernel_rfl
    rw [hz]
    simp [Result.andThen, sliced, h0]
  · rw [run_slice_h (P := Tryd.prog) w 27 (some ⟨g, 0, none⟩) (k + 1) c (by kernel_rfl) .i64 (k : Int) (by omega) (by omega)]
    have hz : ∀ wx, (sizeOf (Tryd.prog.elem 27)).run Tryd.prog wx = .ok 1 wx := fun wx => by kernel_rfl
    rw [hz]
    simp [Result.andThen, sliced, h0]

set_option maxHeartbeats 1000000 in
set_option maxRecDepth 100000 in
theorem close_walk (B : Nat) (R : Nat → Value) (sv : Value) (st : St) (w : World) (h : JB w B R sv st) (ks : Plain.Bs) (kc : UInt8) (ss : List Nat) (slot : Nat) (hk : st.kinds = ks ++ [kc]) (hs : st.slots = ss ++ [slot])
    (hl : ss.length = ks.length) (hcl : st.counts.length = ks.length + 1) (hse : slot < st.ends.length) (ho : st.out.length ≤ 1099511627776) (hkl : ks.length ≤ 1099511627776) :
    Calls Tryd.prog 11 #[.pointer (some ⟨B, 0, none⟩)] w fun e w' => e = .returned (.tuple #[]) ∧ (∃ R', JB w' B R' sv (st.pop kc slot)) ∧ Below B w w' := by
  obtain ⟨i0, hi, hz0, hz1, hz2⟩ := info_parts Tryd.info5
  obtain ⟨a0, c0, e0⟩ := h.form (i := 0) (by omega)
  have k0 := h.cell 0 (by omega)
  have row0 := h.row 0 (by omega)
  rw [e0] at k0 row0
  have row3 := h.row 3 (by omega)
  have k3 := h.cell 3 (by omega)
  have hX3 : (X st 3).length = ks.length + 1 := by show (vb st.kinds).length = _; rw [hk, vb_len]; simp
  rw [hX3] at row3
  obtain ⟨g3, c3, e3, hc3, hg3, hg3l, hcells3, _⟩ := row_form row3 (by omega)
  rw [e3] at k3
  have hkc : w.cell? ⟨g3, ks.length, none⟩ = some (.int .u8 (kc.toNat : Int)) := hcells3 _ _ (by show (vb st.kinds)[ks.length]? = _; rw [hk]; simp [vb])
  have hX0 : (X st 0).length = st.out.length := by show (vb st.out).length = _; rw [vb_len]
  rw [hX0] at row0 k0 e0
  have f0 := h.fr 0
  have HJ : Hid (JB w B R sv st) := h
  have hb1 : st.out.length + 1 ≤ maxLen := by unfold maxLen; omega
  have hb2 : (st.out.length + 1) * 1 ≤ 140737488355328 := by omega
  have hb3 : B + 1 ≤ (w.alloc (.cells #[.int .u8 (kc.toNat : Int)] 5)).drew.heap.size := by have := h.lt; simp; omega
  have hown : (w.alloc (.cells #[.int .u8 (kc.toNat : Int)] 5)).drew.ownsRow (B + 1) 5 1 (.slice a0 st.out.length c0) st.out.length (vb st.out) := row0.alloc _
  have hcn : ∀ j u, (vb [kc])[j]? = some u → (w.alloc (.cells #[.int .u8 (kc.toNat : Int)] 5)).drew.cell? ((⟨w.heap.size, 0, none⟩ : Addr).add j) = some u := cells_new w #[.int .u8 (kc.toNat : Int)] 5
  have k0' : (w.alloc (.cells #[.int .u8 (kc.toNat : Int)] 5)).cell? ⟨B, 0, none⟩ = some (.slice a0 st.out.length c0) := later_cell k0
  have hidx : ((ks.length : Int) < (ks.length : Int) + 1) := by omega
  clear h row3 hcells3
  go_enter Tryd.func11, Tryd.ntmps11
  go_upto_region 1 with fail
  go_cut [] (fun wx => (∃ R', JB wx B R' sv (st.write [kc])) ∧ Below B w wx)
  case first =>
    go_region_law (refine step_append2 rfl (.tmp 13) (.tmp 21) 22 rfl (B + 1) 5 i0 (.int .u8 0) 1 Tryd.underlying22 hi hz0 hz1 hz2 rfl (.slice a0 st.out.length c0) st.out.length (vb st.out) (by simp [Act.eval]) hown ⟨w.heap.size, 0, none⟩ 1 1 (vb [kc]) (by simp [Act.eval]) rfl hcn (vb_one _) hb1 hb2 hb3 ?_; intro v1 w1 r1 r2 r3; obtain ⟨a1, d1, rfl⟩ := owns_form r1; have x0 := ((HJ.out.kept (i := 0) (by omega) e0 r2).1 0).trans k0; have xf := (HJ.out.kept (i := 0) (by omega) e0 r2).2 0)
    all_goals
      go_wp2_with fail
      go_meet
      exact HJ.out.appended (i := 0) (by omega) e0 r1 r2 r3 (by show vb (st.out ++ [kc]) = _; rw [vb_app]) (fun j hj hne => by unfold X; split <;> first | rfl | omega) rfl
  case rest =>
  obtain ⟨⟨R1, h1⟩, hB1⟩ := hcut
  clear hown hcn k0 k0' k3 hkc e0 e3 row0 HJ f0 hg3 hg3l hc3 hb1 hb2 hb3
  have hX5 : (X (st.write [kc]) 5).length = ks.length + 1 := by show (vn st.slots).length = _; rw [hs]; simp [vn, hl]
  have row5 := h1.row 5 (by omega)
  rw [hX5] at row5
  obtain ⟨g5, c5, e5, _, _, _, hcells5, _⟩ := row_form row5 (by omega)
  have k5 := h1.cell 5 (by omega)
  rw [e5] at k5
  have hslot : wc.cell? ⟨g5, ks.length, none⟩ = some (.int .i64 (slot : Int)) := hcells5 _ _ (by show (vn st.slots)[ks.length]? = _; rw [hs, ← hl]; simp [vn])
  have hX2 : (X (st.write [kc]) 2).length = st.ends.length := by show (vi st.ends).length = _; simp [vi]
  have row2 := h1.row 2 (by omega)
  rw [hX2] at row2
  obtain ⟨g2, c2, e2, _, _, _, hcells2, hfr2⟩ := row_form row2 (by omega)
  have k2 := h1.cell 2 (by omega)
  rw [e2] at k2
  have hend : wc.cell? ⟨g2, slot, none⟩ = some (.int .i64 st.ends[slot]) := hcells2 _ _ (by show (vi st.ends)[slot]? = _; simp [vi, hse])
  have hfe := hfr2 slot
  obtain ⟨a0, c0, e0⟩ := h1.form (i := 0) (by omega)
  have hX0 : (X (st.write [kc]) 0).length = st.out.length + 1 := by show (vb (st.out ++ [kc])).length = _; simp [vb]
  have k0 := h1.cell 0 (by omega)
  rw [e0, hX0] at k0
  have hi5 : ((ks.length : Int) < (ks.length : Int) + 1) := by omega
  have hi2 : ((slot : Int) < (st.ends.length : Int)) := by omega
  have H1 : Hid (JB wc B R1 sv (st.write [kc])) := h1
  clear h1 row5 row2 hcells5 hcells2 hfr2
  go_upto_region 2 with fail
  go_cut [] (fun wx => (∃ R', JB wx B R' sv { st.write [kc] with ends := st.ends.set slot ((st.out.length + 1 : Nat) : Int) }) ∧ Below B w wx)
  case first =>
    go_region
    all_goals
      go_wp2_with fail
      go_meet
      obtain ⟨hJ, hBl⟩ := H1.out.setAt (st' := { st.write [kc] with ends := st.ends.set slot ((st.out.length + 1 : Nat) : Int) }) (i := 2) (by omega) e2 slot (.int .i64 ((st.out.length : Int) + 1)) (by show (st.ends.set slot ((st.out.length + 1 : Nat) : Int)).map _ = (st.ends.map _).set _ _; rw [List.map_set]; rfl) (fun j hj hne => by unfold X; split <;> first | rfl | omega) rfl
      exact ⟨⟨R1, hJ.later (fun _ _ => rfl) (Nat.le_refl _)⟩, (hB1.trans hBl).drew⟩
  case rest =>
  obtain ⟨⟨R2, h2⟩, hB2⟩ := hcut
  clear H1 hB1 k5 k2 k0 hslot hend hfe e5 e2 e0
  have rA := h2.row 3 (by omega)
  rw [show (X { st.write [kc] with ends := st.ends.set slot ((st.out.length + 1 : Nat) : Int) } 3).length = ks.length + 1 from hX3] at rA
  obtain ⟨p3, d3, e3, m3, _, _, _, _⟩ := row_form rA (by omega)
  have q3 := h2.cell 3 (by omega)
  rw [e3] at q3
  have rB := h2.row 4 (by omega)
  rw [show (X { st.write [kc] with ends := st.ends.set slot ((st.out.length + 1 : Nat) : Int) } 4).length = ks.length + 1 by show (vn st.counts).length = _; simp [vn, hcl]] at rB
  obtain ⟨p4, d4, e4, m4, _, _, _, _⟩ := row_form rB (by omega)
  have q4 := h2.cell 4 (by omega)
  rw [e4] at q4
  have rC := h2.row 5 (by omega)
  rw [show (X { st.write [kc] with ends := st.ends.set slot ((st.out.length + 1 : Nat) : Int) } 5).length = ks.length + 1 from hX5] at rC
  obtain ⟨p5, d5, e5, m5, _, _, _, _⟩ := row_form rC (by omega)
  have q5 := h2.cell 5 (by omega)
  rw [e5] at q5
  have f3 := h2.fr 3
  have f4 := h2.fr 4
  have f5 := h2.fr 5
  have n3 := cut_run 22 (.inl rfl) p3 ks.length d3 m3
  have n4 := cut_run 27 (.inr rfl) p4 ks.length d4 m4
  have n5 := cut_run 27 (.inr rfl) p5 ks.length d5 m5
  have H2 : Hid (JB wc B R2 sv { st.write [kc] with ends := st.ends.set slot ((st.out.length + 1 : Nat) : Int) }) := h2
  clear h2 rA rB rC
  go_wp2_with fail
  obtain ⟨j3, b3⟩ := H2.out.cut (st' := { st.write [kc] with ends := st.ends.set slot ((st.out.length + 1 : Nat) : Int), kinds := st.kinds.dropLast }) (i := 3) (by omega) e3 (by show (st.kinds.dropLast).map _ = (st.kinds.map _).dropLast; rw [List.map_dropLast]) (fun j hj hne => by unfold X; split <;> first | rfl | omega) rfl
  obtain ⟨j4, b4⟩ := j3.cut (st' := { st.write [kc] with ends := st.ends.set slot ((st.out.length + 1 : Nat) : Int), kinds := st.kinds.dropLast, counts := st.counts.dropLast }) (i := 4) (by omega) (by show R2 4 = _; exact e4) (by show (st.counts.dropLast).map _ = (st.counts.map _).dropLast; rw [List.map_dropLast]) (fun j hj hne => by unfold X; split <;> first | rfl | omega) rfl
  obtain ⟨j5, b5⟩ := j4.cut (st' := st.pop kc slot) (i := 5) (by omega) (by show R2 5 = _; exact e5) (by show (st.slots.dropLast).map _ = (st.slots.map _).dropLast; rw [List.map_dropLast]) (fun j hj hne => match j, hj, hne with | 0, _, _ => rfl | 1, _, _ => rfl | 2, _, _ => rfl | 3, _, _ => rfl | 4, _, _ => rfl | 5, _, h => absurd rfl h | n + 6, h, _ => by omega) rfl
  go_end0
  exact ⟨rfl, ⟨_, j5⟩, ((hB2.trans b3).trans b4).trans b5⟩
end Go.Proofs.Qxb6001559aDoor
